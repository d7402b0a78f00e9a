import JvmDerived
import JvmDerived.Pilot.@@N@@Statement
import JvmDerived.Pilot.@@N@@Code
set_option linter.unusedVariables false
set_option linter.unusedSimpArgs false
namespace Jvm.Pilot.@@N@@
open Jvm Jvm.ClassFile Sem Op Lib Jvm.Free Jvm.Stand Jvm.LawKit Jvm.RoadKit Bundle Jvm.Pilot.@@N@@.Jvm.D
section Own
/-- from the state U the body comes to its end, and P holds there of what it returns, of the heap and of the places that were written -/
def own_G (tb : Tables) (e : Env) (below : List Frame) (s : State) (P : Option Value → Heap → List Loc → Prop) (k n : Nat) (U : State) : Prop :=
  ∃ s₂ o, Steps tb e below U s₂ ∧ s₂.status = .running ∧ Ended s₂ below o ∧ ∃ v L, o = .returned v ∧ P v s₂.heap L ∧ FrameEnd s o s₂ L k n
theorem own_up {tb : Tables} {e : Env} {below : List Frame} {s : State} {P : Option Value → Heap → List Loc → Prop} {k n : Nat} {U U' : State} (h : own_G tb e below s P k n U') (q : ∀ t, Steps tb e below U' t → Steps tb e below U t) : own_G tb e below s P k n U := by
  obtain ⟨s₂, o, h1, r⟩ := h
  exact ⟨s₂, o, q _ h1, r⟩
variable {p : Program} {l : Launch} {e : Env} {R : Room} {s : State} {m : MethodId} {args : Array Value} {below : List Frame} {meth : Method} {c : Code} {T : State} {locs : List Loc} {cells slots : Nat} {P : Option Value → Heap → List Loc → Prop} {k n : Nat}
theorem own_retI (X : Stand p l e R s m args below meth c T locs cells slots) (hx : p.tables.exec = Jvm.exec) (hlk : meth.locks = false) {t : FieldType} (hret : meth.sig.returnType = some t) (hti : t = .int ∨ t = .boolean ∨ t = .byte ∨ t = .char ∨ t = .short) {pc : Nat} {Ls : Array Slot} {w : Int32} (hn : narrow t (.int w) = .int w) (hd : decode c.code pc = .ok (.ireturn, 1)) (hP : P (some (.int w)) T.heap locs) (hk : cells ≤ k) (hs : slots ≤ n) : own_G p.tables e below s P k n (T.setTop (mkF m pc Ls [.int w])) := by
  obtain ⟨fs, hr, hrun, hended, hW, hsame⟩ := X.leave (v := some (.int w)) (fun h => by rw [hret] at h; cases h) hlk
  exact ⟨_, _, X.ireturnOut hx hret hn hti hd hr, hrun, hended, _, _, rfl, hP, ⟨_, rfl⟩, hW, hsame.mono hk hs⟩
theorem own_retJ (X : Stand p l e R s m args below meth c T locs cells slots) (hx : p.tables.exec = Jvm.exec) (hlk : meth.locks = false) (hret : meth.sig.returnType = some .long) {pc : Nat} {Ls : Array Slot} {w : Int64} (hd : decode c.code pc = .ok (.lreturn, 1)) (hP : P (some (.long w)) T.heap locs) (hk : cells ≤ k) (hs : slots ≤ n) : own_G p.tables e below s P k n (T.setTop (mkF m pc Ls [.long w])) := by
  obtain ⟨fs, hr, hrun, hended, hW, hsame⟩ := X.leave (v := some (.long w)) (fun h => by rw [hret] at h; cases h) hlk
  exact ⟨_, _, X.lreturnOut hx hret hd hr, hrun, hended, _, _, rfl, hP, ⟨_, rfl⟩, hW, hsame.mono hk hs⟩
theorem own_retA (X : Stand p l e R s m args below meth c T locs cells slots) (hx : p.tables.exec = Jvm.exec) (hlk : meth.locks = false) {t : FieldType} (hret : meth.sig.returnType = some t) (ht : t.isReference = true) {pc : Nat} {Ls : Array Slot} {w : Value} (hw : w.isRef = true) (hd : decode c.code pc = .ok (.areturn, 1)) (hP : P (some w) T.heap locs) (hk : cells ≤ k) (hs : slots ≤ n) : own_G p.tables e below s P k n (T.setTop (mkF m pc Ls [w])) := by
  obtain ⟨fs, hr, hrun, hended, hW, hsame⟩ := X.leave (v := some w) (fun h => by rw [hret] at h; cases h) hlk
  exact ⟨_, _, X.areturnOut hx hw hret ht hd hr, hrun, hended, _, _, rfl, hP, ⟨_, rfl⟩, hW, hsame.mono hk hs⟩
theorem own_retV (X : Stand p l e R s m args below meth c T locs cells slots) (hx : p.tables.exec = Jvm.exec) (hlk : meth.locks = false) (hret : meth.sig.returnType = none) {pc : Nat} {Ls : Array Slot} (hd : decode c.code pc = .ok (.return_, 1)) (hP : P none T.heap locs) (hk : cells ≤ k) (hs : slots ≤ n) : own_G p.tables e below s P k n (T.setTop (mkF m pc Ls [])) := by
  obtain ⟨fs, hr, hrun, hended, hW, hsame⟩ := X.leave (v := none) (fun _ => rfl) hlk
  exact ⟨_, _, X.returnOut hx hret hd hr, hrun, hended, _, _, rfl, hP, ⟨_, rfl⟩, hW, hsame.mono hk hs⟩
end Own
/-- own_G under the wide frame: constants may have been interned -/
def own_GW (tb : Tables) (e : Env) (below : List Frame) (s : State) (P : Option Value → Heap → List Loc → Prop) (k n : Nat) (U : State) : Prop :=
  ∃ s₂ o, Steps tb e below U s₂ ∧ s₂.status = .running ∧ Ended s₂ below o ∧ ∃ v L, o = .returned v ∧ P v s₂.heap L ∧ ReturnedEndW s o s₂ L k n
theorem own_upW {tb : Tables} {e : Env} {below : List Frame} {s : State} {P : Option Value → Heap → List Loc → Prop} {k n : Nat} {U U' : State} (h : own_GW tb e below s P k n U') (q : ∀ t, Steps tb e below U' t → Steps tb e below U t) : own_GW tb e below s P k n U := by
  obtain ⟨s₂, o, h1, r⟩ := h
  exact ⟨s₂, o, q _ h1, r⟩
section OwnW
variable {p : Program} {l : Launch} {e : Env} {R : Room} {s : State} {m : MethodId} {args : Array Value} {below : List Frame} {meth : Method} {c : Code} {T : State} {locs : List Loc} {cells slots : Nat} {P : Option Value → Heap → List Loc → Prop} {k n : Nat}
theorem own_endW {U : State} {o : Outcome} {L : List Loc} {a b a' b' : Nat} (h : ReturnedEndW s o U L a b) (ha : a ≤ a') (hb : b ≤ b') : ReturnedEndW s o U L a' b' := ⟨h.1, h.2.1, h.2.2.1, h.2.2.2.mono ha hb⟩
theorem own_retIW {vm₁ : Vm} (X : Stand p l e R (s.setVm vm₁) m args below meth c T locs cells slots) (hx : p.tables.exec = Jvm.exec) (hlk : meth.locks = false) {t : FieldType} (hret : meth.sig.returnType = some t) {j : Nat} (hS : s.Since vm₁ j) (hj : j ≤ T.heap.size) (hti : t = .int ∨ t = .boolean ∨ t = .byte ∨ t = .char ∨ t = .short) {pc : Nat} {Ls : Array Slot} {w : Int32} (hn : narrow t (.int w) = .int w) (hd : decode c.code pc = .ok (.ireturn, 1)) (hP : P (some (.int w)) T.heap locs) (hk : cells ≤ k) (hs : slots ≤ n) : own_GW p.tables e below s P k n (T.setTop (mkF m pc Ls [.int w])) := by
  obtain ⟨fs, hr, hrun, hended, hW⟩ := X.leaveW hS hj (v := some (.int w)) (fun h => by rw [hret] at h; cases h) hlk
  exact ⟨_, _, X.ireturnOut hx hret hn hti hd hr, hrun, hended, _, _, rfl, hP, own_endW hW hk hs⟩
theorem own_retVW {vm₁ : Vm} (X : Stand p l e R (s.setVm vm₁) m args below meth c T locs cells slots) (hx : p.tables.exec = Jvm.exec) (hlk : meth.locks = false) (hret : meth.sig.returnType = none) {j : Nat} (hS : s.Since vm₁ j) (hj : j ≤ T.heap.size) {pc : Nat} {Ls : Array Slot} (hd : decode c.code pc = .ok (.return_, 1)) (hP : P none T.heap locs) (hk : cells ≤ k) (hs : slots ≤ n) : own_GW p.tables e below s P k n (T.setTop (mkF m pc Ls [])) := by
  obtain ⟨fs, hr, hrun, hended, hW⟩ := X.leaveW hS hj (v := none) (fun _ => rfl) hlk
  exact ⟨_, _, X.returnOut hx hret hd hr, hrun, hended, _, _, rfl, hP, own_endW hW hk hs⟩
end OwnW
theorem own_wS {Z : State} {a0 : Array Value} (hw : ∀ d ∈ tables_1, d.before a0 Z = true) : ∀ d ∈ Bundle.stringAtoms, d.before a0 Z = true := by
  intro d hd
  simp only [Bundle.stringAtoms, List.mem_cons, List.not_mem_nil, or_false] at hd
  rcases hd with rfl | rfl | rfl | rfl | rfl | rfl | rfl
  · exact (hw _ (List.mem_of_getElem? (i := 20) rfl))
  · exact (hw _ (List.mem_of_getElem? (i := 21) rfl))
  · exact (hw _ (List.mem_of_getElem? (i := 22) rfl))
  · exact (hw _ (List.mem_of_getElem? (i := 23) rfl))
  · exact (hw _ (List.mem_of_getElem? (i := 24) rfl))
  · exact (hw _ (List.mem_of_getElem? (i := 25) rfl))
  · exact (hw _ (List.mem_of_getElem? (i := 26) rfl))
def own_maxI (a b : Int32) : Int32 := if a < b then b else a
theorem own_maxI_toInt (a b : Int32) : (own_maxI a b).toInt = max a.toInt b.toInt := by
  unfold own_maxI
  by_cases h : a < b
  · rw [if_pos h]; rw [Int32.lt_iff_toInt_lt] at h; omega
  · rw [if_neg h]; rw [Int32.lt_iff_toInt_lt] at h; omega
theorem own_oneI {m cn : Int32} (h : cn = own_maxI (1 : Int32) m) : 1 ≤ cn.toInt := by
  rw [h, own_maxI_toInt]
  have : (1 : Int32).toInt = 1 := rfl
  omega
theorem own_ge1 {m cn : Int32} (h : cn = own_maxI (1 : Int32) m) : ¬ (cn < (1 : Int32)) := by
  have h1 := own_oneI h
  rw [Int32.lt_iff_toInt_lt]
  have : (1 : Int32).toInt = 1 := rfl
  omega
section
variable {pa it x z : Int32} {ev nn : Int64} (h_pa : pa = own_maxI (1 : Int32) x) (h_it : it = own_maxI (1 : Int32) z) (h_ev : ev = ((pa.toInt64) * ((it.toInt64) + (1 : Int64)))) (h_nn : nn = ((it.toInt64) + (1 : Int64)))
theorem own_nn {it z : Int32} {nn : Int64} (h_it : it = own_maxI (1 : Int32) z) (h_nn : nn = ((it.toInt64) + (1 : Int64))) : nn.toInt = it.toInt + 1 ∧ 2 ≤ nn.toInt ∧ nn.toInt ≤ 2147483648 := by
  have h1 := own_oneI h_it
  have h2 := rng32 it
  have h3 := c_i2l it
  have h4 := c_ladd it.toInt64 1
  have h5 := rng64 (it.toInt64 + 1)
  have h6 : (1 : Int64).toInt = 1 := rfl
  subst h_nn
  omega
theorem own_ev {pa it x z : Int32} {ev nn : Int64} (h_pa : pa = own_maxI (1 : Int32) x) (h_it : it = own_maxI (1 : Int32) z) (h_ev : ev = ((pa.toInt64) * ((it.toInt64) + (1 : Int64)))) (h_nn : nn = ((it.toInt64) + (1 : Int64))) : ev.toInt = pa.toInt * nn.toInt ∧ 1 ≤ pa.toInt ∧ pa.toInt ≤ 2147483647 ∧ 1 ≤ ev.toInt := by
  obtain ⟨-, n1, n2⟩ := own_nn h_it h_nn
  have h1 := own_oneI h_pa
  have h2 := rng32 pa
  have h3 := c_i2l pa
  rw [← h_nn] at h_ev
  have hp : 0 < pa.toInt * nn.toInt := Int.mul_pos (by omega) (by omega)
  have hu : pa.toInt * nn.toInt ≤ 2147483647 * 2147483648 := Int.mul_le_mul (by omega) n2 (by omega) (by omega)
  have h4 := c_lmul pa.toInt64 nn
  rw [← h_ev, h3] at h4
  have h5 := rng64 ev
  generalize pa.toInt * nn.toInt = M at *
  omega
theorem own_nzp {pa x : Int32} (h_pa : pa = own_maxI (1 : Int32) x) : (pa.toInt64) ≠ 0 := fun q => by
  have h1 := own_oneI h_pa
  have h3 := c_i2l pa
  rw [q] at h3
  have : (0 : Int64).toInt = 0 := rfl
  omega
theorem own_nzn {it z : Int32} {nn : Int64} (h_it : it = own_maxI (1 : Int32) z) (h_nn : nn = ((it.toInt64) + (1 : Int64))) : nn ≠ 0 := fun q => by
  have h1 := own_nn h_it h_nn
  rw [q] at h1
  have : (0 : Int64).toInt = 0 := rfl
  omega
theorem own_c1 {pa it x z : Int32} {ev nn : Int64} (h_pa : pa = own_maxI (1 : Int32) x) (h_it : it = own_maxI (1 : Int32) z) (h_ev : ev = ((pa.toInt64) * ((it.toInt64) + (1 : Int64)))) (h_nn : nn = ((it.toInt64) + (1 : Int64))) : (0 : Int64) < ev := by
  have h1 := own_ev h_pa h_it h_ev h_nn
  rw [Int64.lt_iff_toInt_lt]
  have : (0 : Int64).toInt = 0 := rfl
  omega
theorem own_c2 {pa it x z : Int32} {ev nn : Int64} (h_pa : pa = own_maxI (1 : Int32) x) (h_it : it = own_maxI (1 : Int32) z) (h_ev : ev = ((pa.toInt64) * ((it.toInt64) + (1 : Int64)))) (h_nn : nn = ((it.toInt64) + (1 : Int64))) : (ev - (ev / (pa.toInt64)) * (pa.toInt64)) = (0 : Int64) := by
  obtain ⟨e, a1, a2, a3⟩ := own_ev h_pa h_it h_ev h_nn
  apply Int64.toInt_inj.mp
  rw [(c_lrem ev pa.toInt64 _ (c_i2l pa)).1 (by omega), e, Int.mul_emod_right]
  rfl
theorem own_c4 {pa it x z : Int32} {ev nn : Int64} (h_pa : pa = own_maxI (1 : Int32) x) (h_it : it = own_maxI (1 : Int32) z) (h_ev : ev = ((pa.toInt64) * ((it.toInt64) + (1 : Int64)))) (h_nn : nn = ((it.toInt64) + (1 : Int64))) : (ev - (ev / nn) * nn) = (0 : Int64) := by
  obtain ⟨e, a1, a2, a3⟩ := own_ev h_pa h_it h_ev h_nn
  apply Int64.toInt_inj.mp
  rw [(c_lrem ev nn _ rfl).1 (by omega), e, Int.mul_emod_left]
  rfl
theorem own_c3 {pa it x z : Int32} {ev nn : Int64} (h_pa : pa = own_maxI (1 : Int32) x) (h_it : it = own_maxI (1 : Int32) z) (h_ev : ev = ((pa.toInt64) * ((it.toInt64) + (1 : Int64)))) (h_nn : nn = ((it.toInt64) + (1 : Int64))) : (ev / (pa.toInt64)) = nn := by
  obtain ⟨e, a1, a2, a3⟩ := own_ev h_pa h_it h_ev h_nn
  have hm : pa.toInt64 ≠ -1 := fun q => by
    have h3 := c_i2l pa
    rw [q] at h3
    have : (-1 : Int64).toInt = -1 := by decide
    omega
  apply Int64.toInt_inj.mp
  rw [(c_ldiv ev pa.toInt64 _ (c_i2l pa) hm).1 (by omega), e, Int.mul_ediv_cancel_left _ (by omega)]
theorem own_c5 {pa it x z : Int32} {ev nn : Int64} (h_pa : pa = own_maxI (1 : Int32) x) (h_it : it = own_maxI (1 : Int32) z) (h_ev : ev = ((pa.toInt64) * ((it.toInt64) + (1 : Int64)))) (h_nn : nn = ((it.toInt64) + (1 : Int64))) : (ev / nn) = (pa.toInt64) := by
  obtain ⟨e, a1, a2, a3⟩ := own_ev h_pa h_it h_ev h_nn
  obtain ⟨-, n1, n2⟩ := own_nn h_it h_nn
  have hm : nn ≠ -1 := fun q => by
    rw [q] at n1
    have : (-1 : Int64).toInt = -1 := by decide
    omega
  apply Int64.toInt_inj.mp
  rw [(c_ldiv ev nn _ rfl hm).1 (by omega), e, Int.mul_ediv_cancel _ (by omega), c_i2l]
end
theorem own_pd0 : parseMethodDescriptor "()V" = some ⟨[], none⟩ := by decide +kernel
theorem own_pd1 : parseMethodDescriptor "(Ljava/lang/String;I)V" = some ⟨[(.object "java/lang/String"), .int], none⟩ := by decide +kernel
theorem own_pd2 : parseMethodDescriptor "(II)I" = some ⟨[.int, .int], some .int⟩ := by decide +kernel
theorem own_pd3 : parseMethodDescriptor "(III)V" = some ⟨[.int, .int, .int], none⟩ := by decide +kernel
theorem own_pd4 : parseMethodDescriptor "()J" = some ⟨[], some .long⟩ := by decide +kernel
theorem own_d1_0 : decode jdk_29_method_65_code 0 = .ok (.iload_n 0, 1) := by decide +kernel
theorem own_d1_1 : decode jdk_29_method_65_code 1 = .ok (.iload_n 1, 1) := by decide +kernel
theorem own_d1_2 : decode jdk_29_method_65_code 2 = .ok (.if_icmp .lt 7, 3) := by decide +kernel
theorem own_d1_5 : decode jdk_29_method_65_code 5 = .ok (.iload_n 0, 1) := by decide +kernel
theorem own_d1_6 : decode jdk_29_method_65_code 6 = .ok (.goto 4, 3) := by decide +kernel
theorem own_d1_9 : decode jdk_29_method_65_code 9 = .ok (.iload_n 1, 1) := by decide +kernel
theorem own_d1_10 : decode jdk_29_method_65_code 10 = .ok (.ireturn, 1) := by decide +kernel
theorem own_ef_rm1 (m : MethodId) (x0 : Int32) (x1 : Int32) : entryFrame m #[(.int x0), (.int x1)] 2 = mkF m 0 #[.val (.int x0), .val (.int x1)] [] := by first | (simp [entryFrame, mkF, argsToLocals, Value.category]; done) | rfl
def own_Q_rm1 (Z : State) (a : Int32) (b : Int32) (h0 : Heap) (n0 : Nat) (v : Option Value) (h : Heap) (L : List Loc) : Prop := v = some (.int (own_maxI a b)) ∧ Fr n0 L ∧ h = h0
set_option maxRecDepth 65536 in
set_option maxHeartbeats 40000000 in
theorem rm1 (l : Launch) (Z : State) (a0 : Array Value) (hw : ∀ d ∈ tables_1, d.before a0 Z = true) (ws : List Jvm.Cond) (a : Int32) (b : Int32) (h0 : Heap) (n0 : Nat) (Z0 : n0 ≤ h0.size) :
    MetFree l (⟨"java/lang/Math", "max", "(II)I"⟩ : MethodName) (head1 (Jvm.Cond.code (⟨"java/lang/Math", "max", "(II)I"⟩ : MethodName) jdk_29_method_65_code 2 (some .int) :: ws) ({ frames := 0, cells := 0, slots := 0, locals := 0 } : Room)) (fun aa UU => aa = #[(.int a), (.int b)] ∧ Z.Warmed39 UU.vm ∧ UU.heap = h0) (fun _ _ _ _ _ => True) (fun _ UU oo UU' => ∃ vv LL, oo = .returned vv ∧ own_Q_rm1 Z a b h0 n0 vv UU'.heap LL ∧ FrameEnd UU oo UU' LL ({ frames := 0, cells := 0, slots := 0, locals := 0 } : Room).cells ({ frames := 0, cells := 0, slots := 0, locals := 0 } : Room).slots) := by
  refine MetFree.of_bodySF (Jvm.Free.JP.mathPlain rfl (by decide +kernel)) hisR ?_
  intro p e s m args below meth c s₁ Bd hml0 hP hK
  obtain ⟨rfl, hZ, hh⟩ := hP
  have hx := Bd.exec
  have hby := Bd.bytes
  have hlk := Bd.notSynchronized
  have hml : c.maxLocals = 2 := hml0
  have hown : s.vm.findClass "java/lang/Math" = some m.cls := findClass_of_methodNamed Bd.named
  have hnm := (name_of_methodNamed Bd.named Bd.method).1
  have X0 : Stand p l e ({ frames := 0, cells := 0, slots := 0, locals := 0 } : Room) s m #[(.int a), (.int b)] below meth c s₁ [] 0 0 := Stand.of_body Bd
  have e0 : s₁.heap = h0 := by rw [← hh, Bd.state]; rfl
  have N0 := Fr.nil n0
  show own_G p.tables e below s (own_Q_rm1 Z a b h0 n0) ({ frames := 0, cells := 0, slots := 0, locals := 0 } : Room).cells ({ frames := 0, cells := 0, slots := 0, locals := 0 } : Room).slots (s₁.setTop (entryFrame m #[(.int a), (.int b)] 2))
  refine own_up (U' := s₁.setTop (mkF m 0 #[.val (.int a), .val (.int b)] [])) ?_ (fun t k => castTop (own_ef_rm1 m a b) k)
  refine own_up ?_ fun t k => XS.iloadN X0.here hx rfl (hb hby own_d1_0) rfl k
  show own_G p.tables e below s _ _ _ (s₁.setTop (mkF m 1 #[.val (.int a), .val (.int b)] [(.int a)]))
  refine own_up ?_ fun t k => XS.iloadN X0.here hx rfl (hb hby own_d1_1) rfl k
  show own_G p.tables e below s _ _ _ (s₁.setTop (mkF m 2 #[.val (.int a), .val (.int b)] [(.int b), (.int a)]))
  by_cases hc2_1 : a < b
  · refine own_up ?_ fun t k => XS.icmpYes X0.here hx rfl (pc0 := 2) (pc' := 9) rfl (hb hby own_d1_2) rfl (tlt hc2_1).1 (by decide) (by decide) k
    show own_G p.tables e below s _ _ _ (s₁.setTop (mkF m 9 #[.val (.int a), .val (.int b)] []))
    refine own_up ?_ fun t k => XS.iloadN X0.here hx rfl (hb hby own_d1_9) rfl k
    show own_G p.tables e below s _ _ _ (s₁.setTop (mkF m 10 #[.val (.int a), .val (.int b)] [(.int b)]))
    exact own_retI X0 hx hlk Bd.returns (by simp) rfl (hb hby own_d1_10) ⟨congrArg (fun z => some (Value.int z)) (by simp only [own_maxI, if_pos hc2_1]), N0, e0⟩ (by decide) (by decide)
  · refine own_up ?_ fun t k => XS.icmpNo X0.here hx rfl (hb hby own_d1_2) rfl (flt hc2_1).1 k
    show own_G p.tables e below s _ _ _ (s₁.setTop (mkF m 5 #[.val (.int a), .val (.int b)] []))
    refine own_up ?_ fun t k => XS.iloadN X0.here hx rfl (hb hby own_d1_5) rfl k
    show own_G p.tables e below s _ _ _ (s₁.setTop (mkF m 6 #[.val (.int a), .val (.int b)] [(.int a)]))
    refine own_up ?_ fun t k => XS.goto X0.here hx rfl (pc0 := 6) (pc' := 10) rfl (hb hby own_d1_6) (by decide) (by decide) k
    show own_G p.tables e below s _ _ _ (s₁.setTop (mkF m 10 #[.val (.int a), .val (.int b)] [(.int a)]))
    exact own_retI X0 hx hlk Bd.returns (by simp) rfl (hb hby own_d1_10) ⟨congrArg (fun z => some (Value.int z)) (by simp only [own_maxI, if_neg hc2_1]), N0, e0⟩ (by decide) (by decide)
theorem own_d3_0 : decode jdk_30_method_1_code 0 = .ok (.aload_n 0, 1) := by decide +kernel
theorem own_d3_1 : decode jdk_30_method_1_code 1 = .ok (.invokespecial 1, 3) := by decide +kernel
theorem own_d3_4 : decode jdk_30_method_1_code 4 = .ok (.return_, 1) := by decide +kernel
theorem own_pn0 : plainName "java/lang/Record" = true := by first | (simp [plainName, overriddenIn]; done) | decide +kernel
theorem own_ef_rmRec (m : MethodId) (x0 : Addr) : entryFrame m #[(.ref x0)] 1 = mkF m 0 #[.val (.ref x0)] [] := by first | (simp [entryFrame, mkF, argsToLocals, Value.category]; done) | rfl
def own_Q_rmRec (Z : State) (a : Addr) (h0 : Heap) (n0 : Nat) (v : Option Value) (h : Heap) (L : List Loc) : Prop := v = none ∧ Fr n0 L ∧ h = h0
set_option maxRecDepth 65536 in
set_option maxHeartbeats 40000000 in
theorem rmRec (l : Launch) (Z : State) (a0 : Array Value) (hw : ∀ d ∈ tables_1, d.before a0 Z = true) (ws : List Jvm.Cond) (a : Addr) (h0 : Heap) (n0 : Nat) (Z0 : n0 ≤ h0.size) :
    MetFree l (⟨"java/lang/Record", "<init>", "()V"⟩ : MethodName) (head1 (Jvm.Cond.code (⟨"java/lang/Record", "<init>", "()V"⟩ : MethodName) jdk_30_method_1_code 1 none :: ws) ({ frames := 1, cells := 0, slots := 0, locals := 12 } : Room)) (fun aa UU => aa = #[(.ref a)] ∧ Z.Warmed39 UU.vm ∧ UU.heap = h0) (fun _ _ _ _ _ => True) (fun _ UU oo UU' => ∃ vv LL, oo = .returned vv ∧ own_Q_rmRec Z a h0 n0 vv UU'.heap LL ∧ FrameEnd UU oo UU' LL ({ frames := 1, cells := 0, slots := 0, locals := 12 } : Room).cells ({ frames := 1, cells := 0, slots := 0, locals := 12 } : Room).slots) := by
  refine MetFree.of_bodySF (plainFor_of_name own_pn0) hisR ?_
  intro p e s m args below meth c s₁ Bd hml0 hP hK
  obtain ⟨rfl, hZ, hh⟩ := hP
  have hx := Bd.exec
  have hby := Bd.bytes
  have hlk := Bd.notSynchronized
  have hml : c.maxLocals = 1 := hml0
  have hown : s.vm.findClass "java/lang/Record" = some m.cls := findClass_of_methodNamed Bd.named
  have hnm := (name_of_methodNamed Bd.named Bd.method).1
  have X0 : Stand p l e ({ frames := 1, cells := 0, slots := 0, locals := 12 } : Room) s m #[(.ref a)] below meth c s₁ [] 0 0 := Stand.of_body Bd
  have e0 : s₁.heap = h0 := by rw [← hh, Bd.state]; rfl
  have N0 := Fr.nil n0
  show own_G p.tables e below s (own_Q_rmRec Z a h0 n0) ({ frames := 1, cells := 0, slots := 0, locals := 12 } : Room).cells ({ frames := 1, cells := 0, slots := 0, locals := 12 } : Room).slots (s₁.setTop (entryFrame m #[(.ref a)] 1))
  refine own_up (U' := s₁.setTop (mkF m 0 #[.val (.ref a)] [])) ?_ (fun t k => castTop (own_ef_rmRec m a) k)
  refine own_up ?_ fun t k => XS.aloadN X0.here hx rfl (hb hby own_d3_0) rfl rfl k
  show own_G p.tables e below s _ _ _ (s₁.setTop (mkF m 1 #[.val (.ref a)] [(.ref a)]))
  obtain ⟨T2, X2, e2, st2⟩ := initO X0 hx hZ hown (hw _ (List.mem_of_getElem? (i := 16) rfl)) (hw _ (List.mem_of_getElem? (i := 17) rfl)) (hw _ (List.mem_of_getElem? (i := 18) rfl)) e0 (g := (mkF m 1 #[.val (.ref a)] [(.ref a)])) rfl (by rw [hml]; rfl) rfl (hb hby own_d3_1) (by decide) (W := 0) (by show 2 * 0 + _ ≤ _; exact Nat.le_of_eq rfl) (by decide)
  refine own_up ?_ st2
  show own_G p.tables e below s _ _ _ (T2.setTop (mkF m 4 #[.val (.ref a)] []))
  exact own_retV X2 hx hlk Bd.returns (hb hby own_d3_4) ⟨rfl, N0, e2⟩ (by decide) (by decide)
theorem own_d5_0 : decode prog_17_method_3_code 0 = .ok (.iload_n 1, 1) := by decide +kernel
theorem own_d5_1 : decode prog_17_method_3_code 1 = .ok (.iconst 1, 1) := by decide +kernel
theorem own_d5_2 : decode prog_17_method_3_code 2 = .ok (.if_icmp .ge 18, 3) := by decide +kernel
theorem own_d5_5 : decode prog_17_method_3_code 5 = .ok (.new 26, 3) := by decide +kernel
theorem own_d5_8 : decode prog_17_method_3_code 8 = .ok (.dup, 1) := by decide +kernel
theorem own_d5_9 : decode prog_17_method_3_code 9 = .ok (.aload_n 0, 1) := by decide +kernel
theorem own_d5_10 : decode prog_17_method_3_code 10 = .ok (.iload_n 1, 1) := by decide +kernel
theorem own_d5_16 : decode prog_17_method_3_code 16 = .ok (.invokespecial 32, 3) := by decide +kernel
theorem own_d5_20 : decode prog_17_method_3_code 20 = .ok (.return_, 1) := by decide +kernel
theorem own_pn1 : plainName "com/example/swarmfront/swarmfront/swarm/Budget" = true := by first | (simp [plainName, overriddenIn]; done) | decide +kernel
theorem own_ef_rm5 (m : MethodId) (x0 : Addr) (x1 : Int32) : entryFrame m #[(.ref x0), (.int x1)] 2 = mkF m 0 #[.val (.ref x0), .val (.int x1)] [] := by first | (simp [entryFrame, mkF, argsToLocals, Value.category]; done) | rfl
def own_Q_rm5 (Z : State) (r : Addr) (p1 : Int32) (h0 : Heap) (n0 : Nat) (v : Option Value) (h : Heap) (L : List Loc) : Prop := v = none ∧ Fr n0 L ∧ h = h0
set_option maxRecDepth 65536 in
set_option maxHeartbeats 40000000 in
theorem rm5 (l : Launch) (Z : State) (a0 : Array Value) (hw : ∀ d ∈ tables_1, d.before a0 Z = true) (ws : List Jvm.Cond) (r : Addr) (p1 : Int32) (h0 : Heap) (n0 : Nat) (Z0 : n0 ≤ h0.size) (hp : ¬ (p1 < (1 : Int32))) :
    MetFree l (⟨"com/example/swarmfront/swarmfront/swarm/Budget", "requireAtLeastOne", "(Ljava/lang/String;I)V"⟩ : MethodName) (head1 (Jvm.Cond.code (⟨"com/example/swarmfront/swarmfront/swarm/Budget", "requireAtLeastOne", "(Ljava/lang/String;I)V"⟩ : MethodName) prog_17_method_3_code 2 none :: ws) ({ frames := 0, cells := 0, slots := 0, locals := 0 } : Room)) (fun aa UU => aa = #[(.ref r), (.int p1)] ∧ Z.Warmed39 UU.vm ∧ UU.heap = h0) (fun _ _ _ _ _ => True) (fun _ UU oo UU' => ∃ vv LL, oo = .returned vv ∧ own_Q_rm5 Z r p1 h0 n0 vv UU'.heap LL ∧ FrameEnd UU oo UU' LL ({ frames := 0, cells := 0, slots := 0, locals := 0 } : Room).cells ({ frames := 0, cells := 0, slots := 0, locals := 0 } : Room).slots) := by
  refine MetFree.of_bodySF (plainFor_of_name own_pn1) hisR ?_
  intro p e s m args below meth c s₁ Bd hml0 hP hK
  obtain ⟨rfl, hZ, hh⟩ := hP
  have hx := Bd.exec
  have hby := Bd.bytes
  have hlk := Bd.notSynchronized
  have hml : c.maxLocals = 2 := hml0
  have hown : s.vm.findClass "com/example/swarmfront/swarmfront/swarm/Budget" = some m.cls := findClass_of_methodNamed Bd.named
  have hnm := (name_of_methodNamed Bd.named Bd.method).1
  have X0 : Stand p l e ({ frames := 0, cells := 0, slots := 0, locals := 0 } : Room) s m #[(.ref r), (.int p1)] below meth c s₁ [] 0 0 := Stand.of_body Bd
  have e0 : s₁.heap = h0 := by rw [← hh, Bd.state]; rfl
  have N0 := Fr.nil n0
  show own_G p.tables e below s (own_Q_rm5 Z r p1 h0 n0) ({ frames := 0, cells := 0, slots := 0, locals := 0 } : Room).cells ({ frames := 0, cells := 0, slots := 0, locals := 0 } : Room).slots (s₁.setTop (entryFrame m #[(.ref r), (.int p1)] 2))
  refine own_up (U' := s₁.setTop (mkF m 0 #[.val (.ref r), .val (.int p1)] [])) ?_ (fun t k => castTop (own_ef_rm5 m r p1) k)
  refine own_up ?_ fun t k => XS.iloadN X0.here hx rfl (hb hby own_d5_0) rfl k
  show own_G p.tables e below s _ _ _ (s₁.setTop (mkF m 1 #[.val (.ref r), .val (.int p1)] [(.int p1)]))
  refine own_up ?_ fun t k => XS.iconst X0.here hx rfl (hb hby own_d5_1) k
  show own_G p.tables e below s _ _ _ (s₁.setTop (mkF m 2 #[.val (.ref r), .val (.int p1)] [(.int (1 : Int32)), (.int p1)]))
  refine own_up ?_ fun t k => XS.icmpYes X0.here hx rfl (pc0 := 2) (pc' := 20) rfl (hb hby own_d5_2) rfl (flt (hp : ¬ (p1 < (1 : Int32)))).2.1 (by decide) (by decide) k
  show own_G p.tables e below s _ _ _ (s₁.setTop (mkF m 20 #[.val (.ref r), .val (.int p1)] []))
  exact own_retV X0 hx hlk Bd.returns (hb hby own_d5_20) ⟨rfl, N0, e0⟩ (by decide) (by decide)
theorem own_d2_0 : decode prog_17_method_1_code 0 = .ok (.aload_n 0, 1) := by decide +kernel
theorem own_d2_1 : decode prog_17_method_1_code 1 = .ok (.invokespecial 1, 3) := by decide +kernel
theorem own_d2_4 : decode prog_17_method_1_code 4 = .ok (.ldc 7, 2) := by decide +kernel
theorem own_d2_6 : decode prog_17_method_1_code 6 = .ok (.iload_n 1, 1) := by decide +kernel
theorem own_d2_7 : decode prog_17_method_1_code 7 = .ok (.invokestatic 9, 3) := by decide +kernel
theorem own_d2_10 : decode prog_17_method_1_code 10 = .ok (.ldc 15, 2) := by decide +kernel
theorem own_d2_12 : decode prog_17_method_1_code 12 = .ok (.iload_n 2, 1) := by decide +kernel
theorem own_d2_13 : decode prog_17_method_1_code 13 = .ok (.invokestatic 9, 3) := by decide +kernel
theorem own_d2_16 : decode prog_17_method_1_code 16 = .ok (.ldc 17, 2) := by decide +kernel
theorem own_d2_18 : decode prog_17_method_1_code 18 = .ok (.iload_n 3, 1) := by decide +kernel
theorem own_d2_19 : decode prog_17_method_1_code 19 = .ok (.invokestatic 9, 3) := by decide +kernel
theorem own_d2_22 : decode prog_17_method_1_code 22 = .ok (.aload_n 0, 1) := by decide +kernel
theorem own_d2_23 : decode prog_17_method_1_code 23 = .ok (.iload_n 1, 1) := by decide +kernel
theorem own_d2_24 : decode prog_17_method_1_code 24 = .ok (.putfield 19, 3) := by decide +kernel
theorem own_d2_27 : decode prog_17_method_1_code 27 = .ok (.aload_n 0, 1) := by decide +kernel
theorem own_d2_28 : decode prog_17_method_1_code 28 = .ok (.iload_n 2, 1) := by decide +kernel
theorem own_d2_29 : decode prog_17_method_1_code 29 = .ok (.putfield 22, 3) := by decide +kernel
theorem own_d2_32 : decode prog_17_method_1_code 32 = .ok (.aload_n 0, 1) := by decide +kernel
theorem own_d2_33 : decode prog_17_method_1_code 33 = .ok (.iload_n 3, 1) := by decide +kernel
theorem own_d2_34 : decode prog_17_method_1_code 34 = .ok (.putfield 24, 3) := by decide +kernel
theorem own_d2_37 : decode prog_17_method_1_code 37 = .ok (.return_, 1) := by decide +kernel
theorem own_ef_rm2 (m : MethodId) (x0 : Addr) (x1 : Int32) (x2 : Int32) (x3 : Int32) : entryFrame m #[(.ref x0), (.int x1), (.int x2), (.int x3)] 4 = mkF m 0 #[.val (.ref x0), .val (.int x1), .val (.int x2), .val (.int x3)] [] := by first | (simp [entryFrame, mkF, argsToLocals, Value.category]; done) | rfl
def own_Q_rm2 (Z : State) (a : Addr) (p1 : Int32) (p2 : Int32) (p3 : Int32) (u_particles : Value) (u_archive : Value) (u_iterations : Value) (h0 : Heap) (n0 : Nat) (v : Option Value) (h : Heap) (L : List Loc) : Prop := v = none ∧ Fr n0 L ∧ Keep h0 h [a] ∧ Fld Z h a "com/example/swarmfront/swarmfront/swarm/Budget" "particles" "I" (.int p1) ∧ Fld Z h a "com/example/swarmfront/swarmfront/swarm/Budget" "archive" "I" (.int p2) ∧ Fld Z h a "com/example/swarmfront/swarmfront/swarm/Budget" "iterations" "I" (.int p3)
set_option maxRecDepth 65536 in
set_option maxHeartbeats 40000000 in
theorem rm2 (l : Launch) (Z : State) (a0 : Array Value) (hw : ∀ d ∈ tables_1, d.before a0 Z = true) (ws : List Jvm.Cond) (a : Addr) (p1 : Int32) (p2 : Int32) (p3 : Int32) (u_particles : Value) (u_archive : Value) (u_iterations : Value) (h0 : Heap) (n0 : Nat) (Z0 : n0 ≤ h0.size) (E_a : Exa Z h0 a "com/example/swarmfront/swarmfront/swarm/Budget") (F_particles : Fld Z h0 a "com/example/swarmfront/swarmfront/swarm/Budget" "particles" "I" u_particles) (F_archive : Fld Z h0 a "com/example/swarmfront/swarmfront/swarm/Budget" "archive" "I" u_archive) (F_iterations : Fld Z h0 a "com/example/swarmfront/swarmfront/swarm/Budget" "iterations" "I" u_iterations) (g_a : n0 ≤ a) (hp1 : ¬ (p1 < (1 : Int32))) (hp2 : ¬ (p2 < (1 : Int32))) (hp3 : ¬ (p3 < (1 : Int32))) :
    MetFree l (⟨"com/example/swarmfront/swarmfront/swarm/Budget", "<init>", "(III)V"⟩ : MethodName) (head1 (Jvm.Cond.code (⟨"com/example/swarmfront/swarmfront/swarm/Budget", "<init>", "(III)V"⟩ : MethodName) prog_17_method_1_code 4 none :: ws) ({ frames := 2, cells := 6, slots := 3084, locals := 24 } : Room)) (fun aa UU => aa = #[(.ref a), (.int p1), (.int p2), (.int p3)] ∧ Z.Warmed39 UU.vm ∧ UU.heap = h0) (fun _ _ _ _ _ => True) (fun _ UU oo UU' => ∃ vv LL, oo = .returned vv ∧ own_Q_rm2 Z a p1 p2 p3 u_particles u_archive u_iterations h0 n0 vv UU'.heap LL ∧ ReturnedEndW UU oo UU' LL ({ frames := 2, cells := 6, slots := 3084, locals := 24 } : Room).cells ({ frames := 2, cells := 6, slots := 3084, locals := 24 } : Room).slots) := by
  refine MetFree.of_bodySF (plainFor_of_name own_pn1) hisR ?_
  intro p e s m args below meth c s₁ Bd hml0 hP hK
  obtain ⟨rfl, hZ, hh⟩ := hP
  have hx := Bd.exec
  have hby := Bd.bytes
  have hlk := Bd.notSynchronized
  have hml : c.maxLocals = 4 := hml0
  have hown : s.vm.findClass "com/example/swarmfront/swarmfront/swarm/Budget" = some m.cls := findClass_of_methodNamed Bd.named
  have hnm := (name_of_methodNamed Bd.named Bd.method).1
  have X0 : Stand p l e ({ frames := 2, cells := 6, slots := 3084, locals := 24 } : Room) (s.setVm s.vm) m #[(.ref a), (.int p1), (.int p2), (.int p3)] below meth c s₁ [] 0 0 := by rw [State.setVm_self]; exact Stand.of_body Bd
  have hS0 : s.Since s.vm 0 := (State.WarmedH.refl s).since 0
  have e0 : s₁.heap = h0 := by rw [← hh, Bd.state]; rfl
  have N0 := Fr.nil n0
  show own_GW p.tables e below s (own_Q_rm2 Z a p1 p2 p3 u_particles u_archive u_iterations h0 n0) ({ frames := 2, cells := 6, slots := 3084, locals := 24 } : Room).cells ({ frames := 2, cells := 6, slots := 3084, locals := 24 } : Room).slots (s₁.setTop (entryFrame m #[(.ref a), (.int p1), (.int p2), (.int p3)] 4))
  have K0 := Keep.refl h0 [a]
  refine own_upW (U' := s₁.setTop (mkF m 0 #[.val (.ref a), .val (.int p1), .val (.int p2), .val (.int p3)] [])) ?_ (fun t k => castTop (own_ef_rm2 m a p1 p2 p3) k)
  refine own_upW ?_ fun t k => XS.aloadN X0.here hx rfl (hb hby own_d2_0) rfl rfl k
  show own_GW p.tables e below s _ _ _ (s₁.setTop (mkF m 1 #[.val (.ref a), .val (.int p1), .val (.int p2), .val (.int p3)] [(.ref a)]))
  obtain ⟨_, _, ⟨T3, L3, k3, n3⟩, -, X3, ⟨Lc3, hQ3, l3, y3, z3⟩, st3⟩ := X0.specialBack hx (y := (⟨"java/lang/Record", "<init>", "()V"⟩ : MethodName)) rfl hown (mvT hZ (hw _ (List.mem_of_getElem? (i := 11) rfl))) (mvT hZ (hw _ (List.mem_of_getElem? (i := 12) rfl))) (mvT hZ (hw _ (List.mem_of_getElem? (i := 15) rfl))) (by decide) (backOf (W := 0) (rmRec l Z a0 hw [] a  h0 n0 Z0 ) hZ (hw _ (List.mem_of_getElem? (i := 15) rfl)) (hw _ (List.mem_of_getElem? (i := 14) rfl)) (by decide) (by decide)) (g := (mkF m 1 #[.val (.ref a), .val (.int p1), .val (.int p2), .val (.int p3)] [(.ref a)])) rfl (by rw [hml]; rfl) (Steps.refl _) (a := a) (argsL := []) (rest := []) (lenOf own_pd0 rfl) rfl (by show 2 * 0 + _ ≤ _; exact Nat.le_of_eq rfl) (hb hby own_d2_1) (fun _ _ => ⟨rfl, e0, (by decide : 0 + 0 ≤ _), (by decide : 0 + 0 ≤ _)⟩)
  dsimp only [Pt.U, Pt.locs, Pt.cells, Pt.slots] at X3 l3 y3 z3 st3 hQ3
  subst l3 y3 z3
  obtain ⟨rfl, Nq3, e3⟩ := hQ3
  have N3 := Fr.app N0 Nq3
  refine own_upW ?_ (fun t k => st3.trans k)
  show own_GW p.tables e below s _ _ _ (T3.setTop (mkF m 4 #[.val (.ref a), .val (.int p1), .val (.int p2), .val (.int p3)] []))
  obtain ⟨as4, T4, h4, k4, X4, e4, E4, hS4, kk4, hZ, hown, st4⟩ := ldcS X3 hx hZ hown (hw _ (List.mem_of_getElem? (i := 19) rfl)) (own_wS hw) e3 hS0 (Nat.zero_le _) (g := (mkF m 4 #[.val (.ref a), .val (.int p1), .val (.int p2), .val (.int p3)] [])) rfl (hb hby own_d2_4) (n := 1024) (by decide +kernel) (by decide) (by decide) (by decide)
  refine own_upW ?_ st4
  have E_a_c5 := E_a.ext E4
  have F_particles_c5 := F_particles.ext E4
  have F_archive_c5 := F_archive.ext E4
  have F_iterations_c5 := F_iterations.ext E4
  have Zs6 : n0 ≤ h4.size := Nat.le_trans Z0 E4.1
  have K7 : Keep h0 h4 [a] := K0.ext E4
  show own_GW p.tables e below s _ _ _ (T4.setTop (mkF m 6 #[.val (.ref a), .val (.int p1), .val (.int p2), .val (.int p3)] [(.ref as4)]))
  refine own_upW ?_ fun t k => XS.iloadN X4.here hx rfl (hb hby own_d2_6) rfl k
  show own_GW p.tables e below s _ _ _ (T4.setTop (mkF m 7 #[.val (.ref a), .val (.int p1), .val (.int p2), .val (.int p3)] [(.int p1), (.ref as4)]))
  obtain ⟨_, _, ⟨T8, L8, k8, n8⟩, -, X8, ⟨Lc8, hQ8, l8, y8, z8⟩, st8⟩ := Jvm.LawKit.callS X4 hx (y := (⟨"com/example/swarmfront/swarmfront/swarm/Budget", "requireAtLeastOne", "(Ljava/lang/String;I)V"⟩ : MethodName)) hown (mvT hZ (hw _ (List.mem_of_getElem? (i := 27) rfl))) (mvT hZ (hw _ (List.mem_of_getElem? (i := 28) rfl))) (mvT hZ (hw _ (List.mem_of_getElem? (i := 7) rfl))) (mvT hZ (hw _ (List.mem_of_getElem? (i := 29) rfl))) (by decide) (backOf (W := 0) (rm5 l Z a0 hw [] as4 p1  h4 n0 Zs6 hp1) hZ (hw _ (List.mem_of_getElem? (i := 29) rfl)) (hw _ (List.mem_of_getElem? (i := 7) rfl)) (by decide) (by decide)) (g := (mkF m 7 #[.val (.ref a), .val (.int p1), .val (.int p2), .val (.int p3)] [(.int p1), (.ref as4)])) rfl (by rw [hml]; rfl) (argsL := [(.ref as4), (.int p1)]) (rest := []) (lenOf own_pd1 rfl) rfl (by show 2 * 0 + _ ≤ _; exact Nat.le_of_eq rfl) (hb hby own_d2_7) (fun _ _ => ⟨rfl, e4, (by decide : 2 + 0 ≤ _), (by decide : 1028 + 0 ≤ _)⟩)
  dsimp only [Pt.U, Pt.locs, Pt.cells, Pt.slots] at X8 l8 y8 z8 st8 hQ8
  subst l8 y8 z8
  obtain ⟨rfl, Nq8, e8⟩ := hQ8
  have N8 := Fr.app N3 Nq8
  refine own_upW ?_ (st8)
  show own_GW p.tables e below s _ _ _ (T8.setTop (mkF m 10 #[.val (.ref a), .val (.int p1), .val (.int p2), .val (.int p3)] []))
  obtain ⟨as9, T9, h9, k9, X9, e9, E9, hS9, kk9, hZ, hown, st9⟩ := ldcS X8 hx hZ hown (hw _ (List.mem_of_getElem? (i := 30) rfl)) (own_wS hw) e8 hS4 kk4 (g := (mkF m 10 #[.val (.ref a), .val (.int p1), .val (.int p2), .val (.int p3)] [])) rfl (hb hby own_d2_10) (n := 1024) (by decide +kernel) (by decide) (by decide) (by decide)
  refine own_upW ?_ st9
  have E_a_c10 := E_a_c5.ext E9
  have F_particles_c10 := F_particles_c5.ext E9
  have F_archive_c10 := F_archive_c5.ext E9
  have F_iterations_c10 := F_iterations_c5.ext E9
  have Zs11 : n0 ≤ h9.size := Nat.le_trans Zs6 E9.1
  have K12 : Keep h0 h9 [a] := K7.ext E9
  show own_GW p.tables e below s _ _ _ (T9.setTop (mkF m 12 #[.val (.ref a), .val (.int p1), .val (.int p2), .val (.int p3)] [(.ref as9)]))
  refine own_upW ?_ fun t k => XS.iloadN X9.here hx rfl (hb hby own_d2_12) rfl k
  show own_GW p.tables e below s _ _ _ (T9.setTop (mkF m 13 #[.val (.ref a), .val (.int p1), .val (.int p2), .val (.int p3)] [(.int p2), (.ref as9)]))
  obtain ⟨_, _, ⟨T13, L13, k13, n13⟩, -, X13, ⟨Lc13, hQ13, l13, y13, z13⟩, st13⟩ := Jvm.LawKit.callS X9 hx (y := (⟨"com/example/swarmfront/swarmfront/swarm/Budget", "requireAtLeastOne", "(Ljava/lang/String;I)V"⟩ : MethodName)) hown (mvT hZ (hw _ (List.mem_of_getElem? (i := 27) rfl))) (mvT hZ (hw _ (List.mem_of_getElem? (i := 28) rfl))) (mvT hZ (hw _ (List.mem_of_getElem? (i := 7) rfl))) (mvT hZ (hw _ (List.mem_of_getElem? (i := 29) rfl))) (by decide) (backOf (W := 0) (rm5 l Z a0 hw [] as9 p2  h9 n0 Zs11 hp2) hZ (hw _ (List.mem_of_getElem? (i := 29) rfl)) (hw _ (List.mem_of_getElem? (i := 7) rfl)) (by decide) (by decide)) (g := (mkF m 13 #[.val (.ref a), .val (.int p1), .val (.int p2), .val (.int p3)] [(.int p2), (.ref as9)])) rfl (by rw [hml]; rfl) (argsL := [(.ref as9), (.int p2)]) (rest := []) (lenOf own_pd1 rfl) rfl (by show 2 * 0 + _ ≤ _; exact Nat.le_of_eq rfl) (hb hby own_d2_13) (fun _ _ => ⟨rfl, e9, (by decide : 4 + 0 ≤ _), (by decide : 2056 + 0 ≤ _)⟩)
  dsimp only [Pt.U, Pt.locs, Pt.cells, Pt.slots] at X13 l13 y13 z13 st13 hQ13
  subst l13 y13 z13
  obtain ⟨rfl, Nq13, e13⟩ := hQ13
  have N13 := Fr.app N8 Nq13
  refine own_upW ?_ (st13)
  show own_GW p.tables e below s _ _ _ (T13.setTop (mkF m 16 #[.val (.ref a), .val (.int p1), .val (.int p2), .val (.int p3)] []))
  obtain ⟨as14, T14, h14, k14, X14, e14, E14, hS14, kk14, hZ, hown, st14⟩ := ldcS X13 hx hZ hown (hw _ (List.mem_of_getElem? (i := 31) rfl)) (own_wS hw) e13 hS9 kk9 (g := (mkF m 16 #[.val (.ref a), .val (.int p1), .val (.int p2), .val (.int p3)] [])) rfl (hb hby own_d2_16) (n := 1024) (by decide +kernel) (by decide) (by decide) (by decide)
  refine own_upW ?_ st14
  have E_a_c15 := E_a_c10.ext E14
  have F_particles_c15 := F_particles_c10.ext E14
  have F_archive_c15 := F_archive_c10.ext E14
  have F_iterations_c15 := F_iterations_c10.ext E14
  have Zs16 : n0 ≤ h14.size := Nat.le_trans Zs11 E14.1
  have K17 : Keep h0 h14 [a] := K12.ext E14
  show own_GW p.tables e below s _ _ _ (T14.setTop (mkF m 18 #[.val (.ref a), .val (.int p1), .val (.int p2), .val (.int p3)] [(.ref as14)]))
  refine own_upW ?_ fun t k => XS.iloadN X14.here hx rfl (hb hby own_d2_18) rfl k
  show own_GW p.tables e below s _ _ _ (T14.setTop (mkF m 19 #[.val (.ref a), .val (.int p1), .val (.int p2), .val (.int p3)] [(.int p3), (.ref as14)]))
  obtain ⟨_, _, ⟨T18, L18, k18, n18⟩, -, X18, ⟨Lc18, hQ18, l18, y18, z18⟩, st18⟩ := Jvm.LawKit.callS X14 hx (y := (⟨"com/example/swarmfront/swarmfront/swarm/Budget", "requireAtLeastOne", "(Ljava/lang/String;I)V"⟩ : MethodName)) hown (mvT hZ (hw _ (List.mem_of_getElem? (i := 27) rfl))) (mvT hZ (hw _ (List.mem_of_getElem? (i := 28) rfl))) (mvT hZ (hw _ (List.mem_of_getElem? (i := 7) rfl))) (mvT hZ (hw _ (List.mem_of_getElem? (i := 29) rfl))) (by decide) (backOf (W := 0) (rm5 l Z a0 hw [] as14 p3  h14 n0 Zs16 hp3) hZ (hw _ (List.mem_of_getElem? (i := 29) rfl)) (hw _ (List.mem_of_getElem? (i := 7) rfl)) (by decide) (by decide)) (g := (mkF m 19 #[.val (.ref a), .val (.int p1), .val (.int p2), .val (.int p3)] [(.int p3), (.ref as14)])) rfl (by rw [hml]; rfl) (argsL := [(.ref as14), (.int p3)]) (rest := []) (lenOf own_pd1 rfl) rfl (by show 2 * 0 + _ ≤ _; exact Nat.le_of_eq rfl) (hb hby own_d2_19) (fun _ _ => ⟨rfl, e14, (by decide : 6 + 0 ≤ _), (by decide : 3084 + 0 ≤ _)⟩)
  dsimp only [Pt.U, Pt.locs, Pt.cells, Pt.slots] at X18 l18 y18 z18 st18 hQ18
  subst l18 y18 z18
  obtain ⟨rfl, Nq18, e18⟩ := hQ18
  have N18 := Fr.app N13 Nq18
  refine own_upW ?_ (st18)
  show own_GW p.tables e below s _ _ _ (T18.setTop (mkF m 22 #[.val (.ref a), .val (.int p1), .val (.int p2), .val (.int p3)] []))
  refine own_upW ?_ fun t k => XS.aloadN X18.here hx rfl (hb hby own_d2_22) rfl rfl k
  show own_GW p.tables e below s _ _ _ (T18.setTop (mkF m 23 #[.val (.ref a), .val (.int p1), .val (.int p2), .val (.int p3)] [(.ref a)]))
  refine own_upW ?_ fun t k => XS.iloadN X18.here hx rfl (hb hby own_d2_23) rfl k
  show own_GW p.tables e below s _ _ _ (T18.setTop (mkF m 24 #[.val (.ref a), .val (.int p1), .val (.int p2), .val (.int p3)] [(.int p1), (.ref a)]))
  obtain ⟨T19, h19, X19, e19, W19, st19⟩ := putF X18 hx hZ hown (host := "") (Or.inl (hw _ (List.mem_of_getElem? (i := 32) rfl))) Via.refl e18 F_particles_c15 E_a_c15 (Or.inr ⟨(hw _ (List.mem_of_getElem? (i := 33) rfl)), rfl, hnm⟩) (hw _ (List.mem_of_getElem? (i := 6) rfl)) (ty := .int) (by decide) rfl rfl (g := (mkF m 24 #[.val (.ref a), .val (.int p1), .val (.int p2), .val (.int p3)] [(.int p1), (.ref a)])) rfl rfl (hb hby own_d2_24)
  refine own_upW ?_ st19
  have E_a_c20 := E_a_c15.wr W19
  have F_archive_c20 := F_archive_c15.other W19 (Or.inr (slot_ne (Or.inr (hw _ (List.mem_of_getElem? (i := 35) rfl))) (Or.inr (hw _ (List.mem_of_getElem? (i := 33) rfl))) (by decide) (t := .int) (t' := .int) (by decide) (by decide)))
  have F_iterations_c20 := F_iterations_c15.other W19 (Or.inr (slot_ne (Or.inr (hw _ (List.mem_of_getElem? (i := 37) rfl))) (Or.inr (hw _ (List.mem_of_getElem? (i := 33) rfl))) (by decide) (t := .int) (t' := .int) (by decide) (by decide)))
  have F19 := F_particles_c15.same W19
  have N19 := Fr.snoc X19 N18 g_a
  have kq21 := Nat.le_trans kk14 (Keep.of_wr W19).1
  have Zs22 : n0 ≤ h19.size := Nat.le_trans Zs16 (Keep.of_wr W19).1
  have K23 : Keep h0 h19 [a] := K17.wr W19 (Or.inl (List.mem_of_getElem? (i := 0) rfl))
  show own_GW p.tables e below s _ _ _ (T19.setTop (mkF m 27 #[.val (.ref a), .val (.int p1), .val (.int p2), .val (.int p3)] []))
  refine own_upW ?_ fun t k => XS.aloadN X19.here hx rfl (hb hby own_d2_27) rfl rfl k
  show own_GW p.tables e below s _ _ _ (T19.setTop (mkF m 28 #[.val (.ref a), .val (.int p1), .val (.int p2), .val (.int p3)] [(.ref a)]))
  refine own_upW ?_ fun t k => XS.iloadN X19.here hx rfl (hb hby own_d2_28) rfl k
  show own_GW p.tables e below s _ _ _ (T19.setTop (mkF m 29 #[.val (.ref a), .val (.int p1), .val (.int p2), .val (.int p3)] [(.int p2), (.ref a)]))
  obtain ⟨T24, h24, X24, e24, W24, st24⟩ := putF X19 hx hZ hown (host := "") (Or.inl (hw _ (List.mem_of_getElem? (i := 34) rfl))) Via.refl e19 F_archive_c20 E_a_c20 (Or.inr ⟨(hw _ (List.mem_of_getElem? (i := 35) rfl)), rfl, hnm⟩) (hw _ (List.mem_of_getElem? (i := 6) rfl)) (ty := .int) (by decide) rfl rfl (g := (mkF m 29 #[.val (.ref a), .val (.int p1), .val (.int p2), .val (.int p3)] [(.int p2), (.ref a)])) rfl rfl (hb hby own_d2_29)
  refine own_upW ?_ st24
  have E_a_c25 := E_a_c20.wr W24
  have F19_c25 := F19.other W24 (Or.inr (slot_ne (Or.inr (hw _ (List.mem_of_getElem? (i := 33) rfl))) (Or.inr (hw _ (List.mem_of_getElem? (i := 35) rfl))) (by decide) (t := .int) (t' := .int) (by decide) (by decide)))
  have F_iterations_c25 := F_iterations_c20.other W24 (Or.inr (slot_ne (Or.inr (hw _ (List.mem_of_getElem? (i := 37) rfl))) (Or.inr (hw _ (List.mem_of_getElem? (i := 35) rfl))) (by decide) (t := .int) (t' := .int) (by decide) (by decide)))
  have F24 := F_archive_c20.same W24
  have N24 := Fr.snoc X24 N19 g_a
  have kq26 := Nat.le_trans kq21 (Keep.of_wr W24).1
  have Zs27 : n0 ≤ h24.size := Nat.le_trans Zs22 (Keep.of_wr W24).1
  have K28 : Keep h0 h24 [a] := K23.wr W24 (Or.inl (List.mem_of_getElem? (i := 0) rfl))
  show own_GW p.tables e below s _ _ _ (T24.setTop (mkF m 32 #[.val (.ref a), .val (.int p1), .val (.int p2), .val (.int p3)] []))
  refine own_upW ?_ fun t k => XS.aloadN X24.here hx rfl (hb hby own_d2_32) rfl rfl k
  show own_GW p.tables e below s _ _ _ (T24.setTop (mkF m 33 #[.val (.ref a), .val (.int p1), .val (.int p2), .val (.int p3)] [(.ref a)]))
  refine own_upW ?_ fun t k => XS.iloadN X24.here hx rfl (hb hby own_d2_33) rfl k
  show own_GW p.tables e below s _ _ _ (T24.setTop (mkF m 34 #[.val (.ref a), .val (.int p1), .val (.int p2), .val (.int p3)] [(.int p3), (.ref a)]))
  obtain ⟨T29, h29, X29, e29, W29, st29⟩ := putF X24 hx hZ hown (host := "") (Or.inl (hw _ (List.mem_of_getElem? (i := 36) rfl))) Via.refl e24 F_iterations_c25 E_a_c25 (Or.inr ⟨(hw _ (List.mem_of_getElem? (i := 37) rfl)), rfl, hnm⟩) (hw _ (List.mem_of_getElem? (i := 6) rfl)) (ty := .int) (by decide) rfl rfl (g := (mkF m 34 #[.val (.ref a), .val (.int p1), .val (.int p2), .val (.int p3)] [(.int p3), (.ref a)])) rfl rfl (hb hby own_d2_34)
  refine own_upW ?_ st29
  have E_a_c30 := E_a_c25.wr W29
  have F19_c30 := F19_c25.other W29 (Or.inr (slot_ne (Or.inr (hw _ (List.mem_of_getElem? (i := 33) rfl))) (Or.inr (hw _ (List.mem_of_getElem? (i := 37) rfl))) (by decide) (t := .int) (t' := .int) (by decide) (by decide)))
  have F24_c30 := F24.other W29 (Or.inr (slot_ne (Or.inr (hw _ (List.mem_of_getElem? (i := 35) rfl))) (Or.inr (hw _ (List.mem_of_getElem? (i := 37) rfl))) (by decide) (t := .int) (t' := .int) (by decide) (by decide)))
  have F29 := F_iterations_c25.same W29
  have N29 := Fr.snoc X29 N24 g_a
  have kq31 := Nat.le_trans kq26 (Keep.of_wr W29).1
  have Zs32 : n0 ≤ h29.size := Nat.le_trans Zs27 (Keep.of_wr W29).1
  have K33 : Keep h0 h29 [a] := K28.wr W29 (Or.inl (List.mem_of_getElem? (i := 0) rfl))
  show own_GW p.tables e below s _ _ _ (T29.setTop (mkF m 37 #[.val (.ref a), .val (.int p1), .val (.int p2), .val (.int p3)] []))
  exact own_retVW X29 hx hlk Bd.returns hS14 (by rw [e29]; exact kq31) (hb hby own_d2_37) (by rw [e29]; exact ⟨rfl, N29, K33, F19_c30, F24_c30, F29⟩) (by decide) (by decide)
theorem own_d6_0 : decode prog_17_method_2_code 0 = .ok (.aload_n 0, 1) := by decide +kernel
theorem own_d6_1 : decode prog_17_method_2_code 1 = .ok (.getfield 19, 3) := by decide +kernel
theorem own_d6_4 : decode prog_17_method_2_code 4 = .ok (.i2l, 1) := by decide +kernel
theorem own_d6_5 : decode prog_17_method_2_code 5 = .ok (.aload_n 0, 1) := by decide +kernel
theorem own_d6_6 : decode prog_17_method_2_code 6 = .ok (.getfield 24, 3) := by decide +kernel
theorem own_d6_9 : decode prog_17_method_2_code 9 = .ok (.i2l, 1) := by decide +kernel
theorem own_d6_10 : decode prog_17_method_2_code 10 = .ok (.lconst 1, 1) := by decide +kernel
theorem own_d6_11 : decode prog_17_method_2_code 11 = .ok (.ladd, 1) := by decide +kernel
theorem own_d6_12 : decode prog_17_method_2_code 12 = .ok (.lmul, 1) := by decide +kernel
theorem own_d6_13 : decode prog_17_method_2_code 13 = .ok (.lreturn, 1) := by decide +kernel
theorem own_ef_rm6 (m : MethodId) (x0 : Addr) : entryFrame m #[(.ref x0)] 1 = mkF m 0 #[.val (.ref x0)] [] := by first | (simp [entryFrame, mkF, argsToLocals, Value.category]; done) | rfl
def own_Q_rm6 (Z : State) (a : Addr) (pa : Int32) (it : Int32) (h0 : Heap) (n0 : Nat) (v : Option Value) (h : Heap) (L : List Loc) : Prop := v = some (.long ((pa.toInt64) * ((it.toInt64) + (1 : Int64)))) ∧ Fr n0 L ∧ h = h0
set_option maxRecDepth 65536 in
set_option maxHeartbeats 40000000 in
theorem rm6 (l : Launch) (Z : State) (a0 : Array Value) (hw : ∀ d ∈ tables_1, d.before a0 Z = true) (ws : List Jvm.Cond) (a : Addr) (pa : Int32) (it : Int32) (h0 : Heap) (n0 : Nat) (Z0 : n0 ≤ h0.size) (F_particles : Fld Z h0 a "com/example/swarmfront/swarmfront/swarm/Budget" "particles" "I" (.int pa)) (F_iterations : Fld Z h0 a "com/example/swarmfront/swarmfront/swarm/Budget" "iterations" "I" (.int it)) :
    MetFree l (⟨"com/example/swarmfront/swarmfront/swarm/Budget", "evaluations", "()J"⟩ : MethodName) (head1 (Jvm.Cond.code (⟨"com/example/swarmfront/swarmfront/swarm/Budget", "evaluations", "()J"⟩ : MethodName) prog_17_method_2_code 1 (some .long) :: ws) ({ frames := 0, cells := 0, slots := 0, locals := 0 } : Room)) (fun aa UU => aa = #[(.ref a)] ∧ Z.Warmed39 UU.vm ∧ UU.heap = h0) (fun _ _ _ _ _ => True) (fun _ UU oo UU' => ∃ vv LL, oo = .returned vv ∧ own_Q_rm6 Z a pa it h0 n0 vv UU'.heap LL ∧ FrameEnd UU oo UU' LL ({ frames := 0, cells := 0, slots := 0, locals := 0 } : Room).cells ({ frames := 0, cells := 0, slots := 0, locals := 0 } : Room).slots) := by
  refine MetFree.of_bodySF (plainFor_of_name own_pn1) hisR ?_
  intro p e s m args below meth c s₁ Bd hml0 hP hK
  obtain ⟨rfl, hZ, hh⟩ := hP
  have hx := Bd.exec
  have hby := Bd.bytes
  have hlk := Bd.notSynchronized
  have hml : c.maxLocals = 1 := hml0
  have hown : s.vm.findClass "com/example/swarmfront/swarmfront/swarm/Budget" = some m.cls := findClass_of_methodNamed Bd.named
  have hnm := (name_of_methodNamed Bd.named Bd.method).1
  have X0 : Stand p l e ({ frames := 0, cells := 0, slots := 0, locals := 0 } : Room) s m #[(.ref a)] below meth c s₁ [] 0 0 := Stand.of_body Bd
  have e0 : s₁.heap = h0 := by rw [← hh, Bd.state]; rfl
  have N0 := Fr.nil n0
  show own_G p.tables e below s (own_Q_rm6 Z a pa it h0 n0) ({ frames := 0, cells := 0, slots := 0, locals := 0 } : Room).cells ({ frames := 0, cells := 0, slots := 0, locals := 0 } : Room).slots (s₁.setTop (entryFrame m #[(.ref a)] 1))
  refine own_up (U' := s₁.setTop (mkF m 0 #[.val (.ref a)] [])) ?_ (fun t k => castTop (own_ef_rm6 m a) k)
  refine own_up ?_ fun t k => XS.aloadN X0.here hx rfl (hb hby own_d6_0) rfl rfl k
  show own_G p.tables e below s _ _ _ (s₁.setTop (mkF m 1 #[.val (.ref a)] [(.ref a)]))
  obtain ⟨T34, X34, e34, st34⟩ := getF X0 hx hZ hown (host := "") (Or.inl (hw _ (List.mem_of_getElem? (i := 32) rfl))) Via.refl e0 F_particles (g := (mkF m 1 #[.val (.ref a)] [(.ref a)])) rfl rfl (hb hby own_d6_1)
  refine own_up ?_ st34
  show own_G p.tables e below s _ _ _ (T34.setTop (mkF m 4 #[.val (.ref a)] [(.int pa)]))
  refine own_up ?_ fun t k => XS.i2l X34.here hx rfl (hb hby own_d6_4) rfl k
  show own_G p.tables e below s _ _ _ (T34.setTop (mkF m 5 #[.val (.ref a)] [(.long (pa.toInt64))]))
  refine own_up ?_ fun t k => XS.aloadN X34.here hx rfl (hb hby own_d6_5) rfl rfl k
  show own_G p.tables e below s _ _ _ (T34.setTop (mkF m 6 #[.val (.ref a)] [(.ref a), (.long (pa.toInt64))]))
  obtain ⟨T35, X35, e35, st35⟩ := getF X34 hx hZ hown (host := "") (Or.inl (hw _ (List.mem_of_getElem? (i := 36) rfl))) Via.refl e34 F_iterations (g := (mkF m 6 #[.val (.ref a)] [(.ref a), (.long (pa.toInt64))])) rfl rfl (hb hby own_d6_6)
  refine own_up ?_ st35
  show own_G p.tables e below s _ _ _ (T35.setTop (mkF m 9 #[.val (.ref a)] [(.int it), (.long (pa.toInt64))]))
  refine own_up ?_ fun t k => XS.i2l X35.here hx rfl (hb hby own_d6_9) rfl k
  show own_G p.tables e below s _ _ _ (T35.setTop (mkF m 10 #[.val (.ref a)] [(.long (it.toInt64)), (.long (pa.toInt64))]))
  refine own_up ?_ fun t k => XS.lconst X35.here hx rfl (hb hby own_d6_10) k
  show own_G p.tables e below s _ _ _ (T35.setTop (mkF m 11 #[.val (.ref a)] [(.long (1 : Int64)), (.long (it.toInt64)), (.long (pa.toInt64))]))
  refine own_up ?_ fun t k => XS.ladd X35.here hx rfl (hb hby own_d6_11) rfl k
  show own_G p.tables e below s _ _ _ (T35.setTop (mkF m 12 #[.val (.ref a)] [(.long ((it.toInt64) + (1 : Int64))), (.long (pa.toInt64))]))
  refine own_up ?_ fun t k => XS.lmul X35.here hx rfl (hb hby own_d6_12) rfl k
  show own_G p.tables e below s _ _ _ (T35.setTop (mkF m 13 #[.val (.ref a)] [(.long ((pa.toInt64) * ((it.toInt64) + (1 : Int64))))]))
  exact own_retJ X35 hx hlk Bd.returns (hb hby own_d6_13) ⟨rfl, N0, e35⟩ (by decide) (by decide)
theorem own_pn2 : plainName "com/example/swarmfront/swarmfront/swarm/BudgetEvaluationsPinLaw" = true := by first | (simp [plainName, overriddenIn]; done) | decide +kernel
theorem own_ef_rm0 (m : MethodId) (x0 : Int32) (x1 : Int32) (x2 : Int32) : entryFrame m #[(.int x0), (.int x1), (.int x2)] maxLocals = mkF m 0 #[.val (.int x0), .val (.int x1), .val (.int x2), .unset, .unset, .unset, .unset, .unset, .unset, .unset, .unset] [] := by first | (simp [entryFrame, mkF, argsToLocals, Value.category, maxLocals]; done) | rfl
def own_Q_rm0 (Z : State) (p1 : Int32) (p2 : Int32) (p3 : Int32) (h0 : Heap) (n0 : Nat) (v : Option Value) (h : Heap) (L : List Loc) : Prop := v = some (.int (1 : Int32)) ∧ Fr n0 L
set_option maxRecDepth 65536 in
set_option maxHeartbeats 40000000 in
theorem rm0 (l : Launch) (Z : State) (a0 : Array Value) (hw : ∀ d ∈ tables_1, d.before a0 Z = true) (ws : List Jvm.Cond) (p1 : Int32) (p2 : Int32) (p3 : Int32) (h0 : Heap) (n0 : Nat) (Z0 : n0 ≤ h0.size) :
    MetFree l x (head1 (Jvm.Cond.code x code maxLocals ret :: ws) room_1) (fun aa UU => aa = #[(.int p1), (.int p2), (.int p3)] ∧ Z.Warmed39 UU.vm ∧ UU.heap = h0) (fun _ _ _ _ _ => True) (fun _ UU oo UU' => ∃ vv LL, oo = .returned vv ∧ own_Q_rm0 Z p1 p2 p3 h0 n0 vv UU'.heap LL ∧ ReturnedEndW UU oo UU' LL room_1.cells room_1.slots) := by
  refine MetFree.of_bodySF (plainFor_of_name own_pn2) hisR ?_
  intro p e s m args below meth c s₁ Bd hml0 hP hK
  obtain ⟨rfl, hZ, hh⟩ := hP
  have hx := Bd.exec
  have hby := Bd.bytes
  have hlk := Bd.notSynchronized
  have hml : c.maxLocals = 11 := hml0
  have hown : s.vm.findClass "com/example/swarmfront/swarmfront/swarm/BudgetEvaluationsPinLaw" = some m.cls := findClass_of_methodNamed Bd.named
  have hnm := (name_of_methodNamed Bd.named Bd.method).1
  have X0 : Stand p l e room_1 (s.setVm s.vm) m #[(.int p1), (.int p2), (.int p3)] below meth c s₁ [] 0 0 := by rw [State.setVm_self]; exact Stand.of_body Bd
  have hS0 : s.Since s.vm 0 := (State.WarmedH.refl s).since 0
  have e0 : s₁.heap = h0 := by rw [← hh, Bd.state]; rfl
  have N0 := Fr.nil n0
  show own_GW p.tables e below s (own_Q_rm0 Z p1 p2 p3 h0 n0) room_1.cells room_1.slots (s₁.setTop (entryFrame m #[(.int p1), (.int p2), (.int p3)] maxLocals))
  refine own_upW (U' := s₁.setTop (mkF m 0 #[.val (.int p1), .val (.int p2), .val (.int p3), .unset, .unset, .unset, .unset, .unset, .unset, .unset, .unset] [])) ?_ (fun t k => castTop (own_ef_rm0 m p1 p2 p3) k)
  refine own_upW ?_ fun t k => XS.iconst X0.here hx rfl (hb hby at_0) k
  show own_GW p.tables e below s _ _ _ (s₁.setTop (mkF m 1 #[.val (.int p1), .val (.int p2), .val (.int p3), .unset, .unset, .unset, .unset, .unset, .unset, .unset, .unset] [(.int (1 : Int32))]))
  refine own_upW ?_ fun t k => XS.iloadN X0.here hx rfl (hb hby at_1) rfl k
  show own_GW p.tables e below s _ _ _ (s₁.setTop (mkF m 2 #[.val (.int p1), .val (.int p2), .val (.int p3), .unset, .unset, .unset, .unset, .unset, .unset, .unset, .unset] [(.int p1), (.int (1 : Int32))]))
  refine own_upW ?_ fun t k => X0.ldcInt hx hown (mvT hZ (hw _ (List.mem_of_getElem? (i := 0) rfl))) (g := (mkF m 2 #[.val (.int p1), .val (.int p2), .val (.int p3), .unset, .unset, .unset, .unset, .unset, .unset, .unset, .unset] [(.int p1), (.int (1 : Int32))])) rfl (hb hby at_2) _ k
  show own_GW p.tables e below s _ _ _ (s₁.setTop (mkF m 4 #[.val (.int p1), .val (.int p2), .val (.int p3), .unset, .unset, .unset, .unset, .unset, .unset, .unset, .unset] [(.int (2147483647 : Int32)), (.int p1), (.int (1 : Int32))]))
  refine own_upW ?_ fun t k => XS.iand X0.here hx rfl (hb hby at_4) rfl k
  show own_GW p.tables e below s _ _ _ (s₁.setTop (mkF m 5 #[.val (.int p1), .val (.int p2), .val (.int p3), .unset, .unset, .unset, .unset, .unset, .unset, .unset, .unset] [(.int (p1 &&& (2147483647 : Int32))), (.int (1 : Int32))]))
  obtain ⟨_, _, ⟨T36, L36, k36, n36⟩, -, X36, ⟨Lc36, hQ36, l36, y36, z36⟩, st36⟩ := Jvm.LawKit.callS X0 hx (y := (⟨"java/lang/Math", "max", "(II)I"⟩ : MethodName)) hown (mvT hZ (hw _ (List.mem_of_getElem? (i := 1) rfl))) (mvT hZ (hw _ (List.mem_of_getElem? (i := 2) rfl))) (mvT hZ (hw _ (List.mem_of_getElem? (i := 3) rfl))) (mvT hZ (hw _ (List.mem_of_getElem? (i := 4) rfl))) (by decide) (backOf (W := 0) (rm1 l Z a0 hw [] (1 : Int32) (p1 &&& (2147483647 : Int32))  h0 n0 Z0 ) hZ (hw _ (List.mem_of_getElem? (i := 4) rfl)) (hw _ (List.mem_of_getElem? (i := 3) rfl)) (by decide) (by decide)) (g := (mkF m 5 #[.val (.int p1), .val (.int p2), .val (.int p3), .unset, .unset, .unset, .unset, .unset, .unset, .unset, .unset] [(.int (p1 &&& (2147483647 : Int32))), (.int (1 : Int32))])) rfl (by rw [hml]; rfl) (argsL := [(.int (1 : Int32)), (.int (p1 &&& (2147483647 : Int32)))]) (rest := []) (lenOf own_pd2 rfl) rfl (by show 2 * 0 + _ ≤ _; exact Nat.le_of_eq rfl) (hb hby at_5) (fun _ _ => ⟨rfl, e0, (by decide : 0 + 0 ≤ _), (by decide : 0 + 0 ≤ _)⟩)
  dsimp only [Pt.U, Pt.locs, Pt.cells, Pt.slots] at X36 l36 y36 z36 st36 hQ36
  subst l36 y36 z36
  obtain ⟨rfl, Nq36, e36⟩ := hQ36
  have N36 := Fr.app N0 Nq36
  refine own_upW ?_ (st36)
  show own_GW p.tables e below s _ _ _ (T36.setTop (mkF m 8 #[.val (.int p1), .val (.int p2), .val (.int p3), .unset, .unset, .unset, .unset, .unset, .unset, .unset, .unset] [(.int (own_maxI (1 : Int32) (p1 &&& (2147483647 : Int32))))]))
  refine own_upW ?_ fun t k => XS.istoreN X36.here hx rfl (hb hby at_8) rfl (l' := #[.val (.int p1), .val (.int p2), .val (.int p3), .val (.int (own_maxI (1 : Int32) (p1 &&& (2147483647 : Int32)))), .unset, .unset, .unset, .unset, .unset, .unset, .unset]) rfl k
  show own_GW p.tables e below s _ _ _ (T36.setTop (mkF m 9 #[.val (.int p1), .val (.int p2), .val (.int p3), .val (.int (own_maxI (1 : Int32) (p1 &&& (2147483647 : Int32)))), .unset, .unset, .unset, .unset, .unset, .unset, .unset] []))
  obtain ⟨pa, h_pa⟩ : ∃ z, z = (own_maxI (1 : Int32) (p1 &&& (2147483647 : Int32))) := ⟨_, rfl⟩
  rw [← h_pa]
  show own_GW p.tables e below s _ _ _ (T36.setTop (mkF m 9 #[.val (.int p1), .val (.int p2), .val (.int p3), .val (.int pa), .unset, .unset, .unset, .unset, .unset, .unset, .unset] []))
  refine own_upW ?_ fun t k => XS.iconst X36.here hx rfl (hb hby at_9) k
  show own_GW p.tables e below s _ _ _ (T36.setTop (mkF m 10 #[.val (.int p1), .val (.int p2), .val (.int p3), .val (.int pa), .unset, .unset, .unset, .unset, .unset, .unset, .unset] [(.int (1 : Int32))]))
  refine own_upW ?_ fun t k => XS.iloadN X36.here hx rfl (hb hby at_10) rfl k
  show own_GW p.tables e below s _ _ _ (T36.setTop (mkF m 11 #[.val (.int p1), .val (.int p2), .val (.int p3), .val (.int pa), .unset, .unset, .unset, .unset, .unset, .unset, .unset] [(.int p2), (.int (1 : Int32))]))
  refine own_upW ?_ fun t k => X36.ldcInt hx hown (mvT hZ (hw _ (List.mem_of_getElem? (i := 0) rfl))) (g := (mkF m 11 #[.val (.int p1), .val (.int p2), .val (.int p3), .val (.int pa), .unset, .unset, .unset, .unset, .unset, .unset, .unset] [(.int p2), (.int (1 : Int32))])) rfl (hb hby at_11) _ k
  show own_GW p.tables e below s _ _ _ (T36.setTop (mkF m 13 #[.val (.int p1), .val (.int p2), .val (.int p3), .val (.int pa), .unset, .unset, .unset, .unset, .unset, .unset, .unset] [(.int (2147483647 : Int32)), (.int p2), (.int (1 : Int32))]))
  refine own_upW ?_ fun t k => XS.iand X36.here hx rfl (hb hby at_13) rfl k
  show own_GW p.tables e below s _ _ _ (T36.setTop (mkF m 14 #[.val (.int p1), .val (.int p2), .val (.int p3), .val (.int pa), .unset, .unset, .unset, .unset, .unset, .unset, .unset] [(.int (p2 &&& (2147483647 : Int32))), (.int (1 : Int32))]))
  obtain ⟨_, _, ⟨T37, L37, k37, n37⟩, -, X37, ⟨Lc37, hQ37, l37, y37, z37⟩, st37⟩ := Jvm.LawKit.callS X36 hx (y := (⟨"java/lang/Math", "max", "(II)I"⟩ : MethodName)) hown (mvT hZ (hw _ (List.mem_of_getElem? (i := 1) rfl))) (mvT hZ (hw _ (List.mem_of_getElem? (i := 2) rfl))) (mvT hZ (hw _ (List.mem_of_getElem? (i := 3) rfl))) (mvT hZ (hw _ (List.mem_of_getElem? (i := 4) rfl))) (by decide) (backOf (W := 0) (rm1 l Z a0 hw [] (1 : Int32) (p2 &&& (2147483647 : Int32))  h0 n0 Z0 ) hZ (hw _ (List.mem_of_getElem? (i := 4) rfl)) (hw _ (List.mem_of_getElem? (i := 3) rfl)) (by decide) (by decide)) (g := (mkF m 14 #[.val (.int p1), .val (.int p2), .val (.int p3), .val (.int pa), .unset, .unset, .unset, .unset, .unset, .unset, .unset] [(.int (p2 &&& (2147483647 : Int32))), (.int (1 : Int32))])) rfl (by rw [hml]; rfl) (argsL := [(.int (1 : Int32)), (.int (p2 &&& (2147483647 : Int32)))]) (rest := []) (lenOf own_pd2 rfl) rfl (by show 2 * 0 + _ ≤ _; exact Nat.le_of_eq rfl) (hb hby at_14) (fun _ _ => ⟨rfl, e36, (by decide : 0 + 0 ≤ _), (by decide : 0 + 0 ≤ _)⟩)
  dsimp only [Pt.U, Pt.locs, Pt.cells, Pt.slots] at X37 l37 y37 z37 st37 hQ37
  subst l37 y37 z37
  obtain ⟨rfl, Nq37, e37⟩ := hQ37
  have N37 := Fr.app N36 Nq37
  refine own_upW ?_ (st37)
  show own_GW p.tables e below s _ _ _ (T37.setTop (mkF m 17 #[.val (.int p1), .val (.int p2), .val (.int p3), .val (.int pa), .unset, .unset, .unset, .unset, .unset, .unset, .unset] [(.int (own_maxI (1 : Int32) (p2 &&& (2147483647 : Int32))))]))
  refine own_upW ?_ fun t k => XS.istore X37.here hx rfl (hb hby at_17) rfl (l' := #[.val (.int p1), .val (.int p2), .val (.int p3), .val (.int pa), .val (.int (own_maxI (1 : Int32) (p2 &&& (2147483647 : Int32)))), .unset, .unset, .unset, .unset, .unset, .unset]) rfl k
  show own_GW p.tables e below s _ _ _ (T37.setTop (mkF m 19 #[.val (.int p1), .val (.int p2), .val (.int p3), .val (.int pa), .val (.int (own_maxI (1 : Int32) (p2 &&& (2147483647 : Int32)))), .unset, .unset, .unset, .unset, .unset, .unset] []))
  obtain ⟨ar, h_ar⟩ : ∃ z, z = (own_maxI (1 : Int32) (p2 &&& (2147483647 : Int32))) := ⟨_, rfl⟩
  rw [← h_ar]
  show own_GW p.tables e below s _ _ _ (T37.setTop (mkF m 19 #[.val (.int p1), .val (.int p2), .val (.int p3), .val (.int pa), .val (.int ar), .unset, .unset, .unset, .unset, .unset, .unset] []))
  refine own_upW ?_ fun t k => XS.iconst X37.here hx rfl (hb hby at_19) k
  show own_GW p.tables e below s _ _ _ (T37.setTop (mkF m 20 #[.val (.int p1), .val (.int p2), .val (.int p3), .val (.int pa), .val (.int ar), .unset, .unset, .unset, .unset, .unset, .unset] [(.int (1 : Int32))]))
  refine own_upW ?_ fun t k => XS.iloadN X37.here hx rfl (hb hby at_20) rfl k
  show own_GW p.tables e below s _ _ _ (T37.setTop (mkF m 21 #[.val (.int p1), .val (.int p2), .val (.int p3), .val (.int pa), .val (.int ar), .unset, .unset, .unset, .unset, .unset, .unset] [(.int p3), (.int (1 : Int32))]))
  refine own_upW ?_ fun t k => X37.ldcInt hx hown (mvT hZ (hw _ (List.mem_of_getElem? (i := 0) rfl))) (g := (mkF m 21 #[.val (.int p1), .val (.int p2), .val (.int p3), .val (.int pa), .val (.int ar), .unset, .unset, .unset, .unset, .unset, .unset] [(.int p3), (.int (1 : Int32))])) rfl (hb hby at_21) _ k
  show own_GW p.tables e below s _ _ _ (T37.setTop (mkF m 23 #[.val (.int p1), .val (.int p2), .val (.int p3), .val (.int pa), .val (.int ar), .unset, .unset, .unset, .unset, .unset, .unset] [(.int (2147483647 : Int32)), (.int p3), (.int (1 : Int32))]))
  refine own_upW ?_ fun t k => XS.iand X37.here hx rfl (hb hby at_23) rfl k
  show own_GW p.tables e below s _ _ _ (T37.setTop (mkF m 24 #[.val (.int p1), .val (.int p2), .val (.int p3), .val (.int pa), .val (.int ar), .unset, .unset, .unset, .unset, .unset, .unset] [(.int (p3 &&& (2147483647 : Int32))), (.int (1 : Int32))]))
  obtain ⟨_, _, ⟨T38, L38, k38, n38⟩, -, X38, ⟨Lc38, hQ38, l38, y38, z38⟩, st38⟩ := Jvm.LawKit.callS X37 hx (y := (⟨"java/lang/Math", "max", "(II)I"⟩ : MethodName)) hown (mvT hZ (hw _ (List.mem_of_getElem? (i := 1) rfl))) (mvT hZ (hw _ (List.mem_of_getElem? (i := 2) rfl))) (mvT hZ (hw _ (List.mem_of_getElem? (i := 3) rfl))) (mvT hZ (hw _ (List.mem_of_getElem? (i := 4) rfl))) (by decide) (backOf (W := 0) (rm1 l Z a0 hw [] (1 : Int32) (p3 &&& (2147483647 : Int32))  h0 n0 Z0 ) hZ (hw _ (List.mem_of_getElem? (i := 4) rfl)) (hw _ (List.mem_of_getElem? (i := 3) rfl)) (by decide) (by decide)) (g := (mkF m 24 #[.val (.int p1), .val (.int p2), .val (.int p3), .val (.int pa), .val (.int ar), .unset, .unset, .unset, .unset, .unset, .unset] [(.int (p3 &&& (2147483647 : Int32))), (.int (1 : Int32))])) rfl (by rw [hml]; rfl) (argsL := [(.int (1 : Int32)), (.int (p3 &&& (2147483647 : Int32)))]) (rest := []) (lenOf own_pd2 rfl) rfl (by show 2 * 0 + _ ≤ _; exact Nat.le_of_eq rfl) (hb hby at_24) (fun _ _ => ⟨rfl, e37, (by decide : 0 + 0 ≤ _), (by decide : 0 + 0 ≤ _)⟩)
  dsimp only [Pt.U, Pt.locs, Pt.cells, Pt.slots] at X38 l38 y38 z38 st38 hQ38
  subst l38 y38 z38
  obtain ⟨rfl, Nq38, e38⟩ := hQ38
  have N38 := Fr.app N37 Nq38
  refine own_upW ?_ (st38)
  show own_GW p.tables e below s _ _ _ (T38.setTop (mkF m 27 #[.val (.int p1), .val (.int p2), .val (.int p3), .val (.int pa), .val (.int ar), .unset, .unset, .unset, .unset, .unset, .unset] [(.int (own_maxI (1 : Int32) (p3 &&& (2147483647 : Int32))))]))
  refine own_upW ?_ fun t k => XS.istore X38.here hx rfl (hb hby at_27) rfl (l' := #[.val (.int p1), .val (.int p2), .val (.int p3), .val (.int pa), .val (.int ar), .val (.int (own_maxI (1 : Int32) (p3 &&& (2147483647 : Int32)))), .unset, .unset, .unset, .unset, .unset]) rfl k
  show own_GW p.tables e below s _ _ _ (T38.setTop (mkF m 29 #[.val (.int p1), .val (.int p2), .val (.int p3), .val (.int pa), .val (.int ar), .val (.int (own_maxI (1 : Int32) (p3 &&& (2147483647 : Int32)))), .unset, .unset, .unset, .unset, .unset] []))
  obtain ⟨it, h_it⟩ : ∃ z, z = (own_maxI (1 : Int32) (p3 &&& (2147483647 : Int32))) := ⟨_, rfl⟩
  rw [← h_it]
  show own_GW p.tables e below s _ _ _ (T38.setTop (mkF m 29 #[.val (.int p1), .val (.int p2), .val (.int p3), .val (.int pa), .val (.int ar), .val (.int it), .unset, .unset, .unset, .unset, .unset] []))
  obtain ⟨T39, h39, X39, e39, E39, A39, D39, -, st39⟩ := newO X38 hx hZ hown (hw _ (List.mem_of_getElem? (i := 5) rfl)) (hw _ (List.mem_of_getElem? (i := 6) rfl)) (hw _ (List.mem_of_getElem? (i := 7) rfl)) e38 (g := (mkF m 29 #[.val (.int p1), .val (.int p2), .val (.int p3), .val (.int pa), .val (.int ar), .val (.int it), .unset, .unset, .unset, .unset, .unset] [])) rfl (hb hby at_29) (by decide) (by decide)
  obtain ⟨b39, g39⟩ : ∃ z, z = h0.size := ⟨_, rfl⟩
  rw [← g39] at A39 D39 st39
  refine own_upW ?_ st39
  have ge40 : n0 ≤ b39 := Nat.le_trans Z0 (Nat.le_of_eq g39.symm)
  have kq42 := Nat.le_trans (Nat.zero_le _) E39.1
  have Zs43 : n0 ≤ h39.size := Nat.le_trans Z0 E39.1
  have F_particles_b39 : Fld Z h39 b39 "com/example/swarmfront/swarmfront/swarm/Budget" "particles" "I" (.int (0 : Int32)) := D39 (Or.inr (hw _ (List.mem_of_getElem? (i := 33) rfl))) (ty := .int) (by decide)
  have F_archive_b39 : Fld Z h39 b39 "com/example/swarmfront/swarmfront/swarm/Budget" "archive" "I" (.int (0 : Int32)) := D39 (Or.inr (hw _ (List.mem_of_getElem? (i := 35) rfl))) (ty := .int) (by decide)
  have F_iterations_b39 : Fld Z h39 b39 "com/example/swarmfront/swarmfront/swarm/Budget" "iterations" "I" (.int (0 : Int32)) := D39 (Or.inr (hw _ (List.mem_of_getElem? (i := 37) rfl))) (ty := .int) (by decide)
  show own_GW p.tables e below s _ _ _ (T39.setTop (mkF m 32 #[.val (.int p1), .val (.int p2), .val (.int p3), .val (.int pa), .val (.int ar), .val (.int it), .unset, .unset, .unset, .unset, .unset] [(.ref b39)]))
  refine own_upW ?_ fun t k => XS.dup X39.here hx rfl (hb hby at_32) rfl rfl k
  show own_GW p.tables e below s _ _ _ (T39.setTop (mkF m 33 #[.val (.int p1), .val (.int p2), .val (.int p3), .val (.int pa), .val (.int ar), .val (.int it), .unset, .unset, .unset, .unset, .unset] [(.ref b39), (.ref b39)]))
  refine own_upW ?_ fun t k => XS.iloadN X39.here hx rfl (hb hby at_33) rfl k
  show own_GW p.tables e below s _ _ _ (T39.setTop (mkF m 34 #[.val (.int p1), .val (.int p2), .val (.int p3), .val (.int pa), .val (.int ar), .val (.int it), .unset, .unset, .unset, .unset, .unset] [(.int pa), (.ref b39), (.ref b39)]))
  refine own_upW ?_ fun t k => XS.iload X39.here hx rfl (hb hby at_34) rfl k
  show own_GW p.tables e below s _ _ _ (T39.setTop (mkF m 36 #[.val (.int p1), .val (.int p2), .val (.int p3), .val (.int pa), .val (.int ar), .val (.int it), .unset, .unset, .unset, .unset, .unset] [(.int ar), (.int pa), (.ref b39), (.ref b39)]))
  refine own_upW ?_ fun t k => XS.iload X39.here hx rfl (hb hby at_36) rfl k
  show own_GW p.tables e below s _ _ _ (T39.setTop (mkF m 38 #[.val (.int p1), .val (.int p2), .val (.int p3), .val (.int pa), .val (.int ar), .val (.int it), .unset, .unset, .unset, .unset, .unset] [(.int it), (.int ar), (.int pa), (.ref b39), (.ref b39)]))
  obtain ⟨_, _, ⟨T44, L44, k44, n44⟩, -, X44, hSn44, hgr44, ⟨Lc44, hQ44, l44, y44, z44⟩, st44⟩ := X39.specialBackS hx (y := (⟨"com/example/swarmfront/swarmfront/swarm/Budget", "<init>", "(III)V"⟩ : MethodName)) rfl hown (mvT hZ (hw _ (List.mem_of_getElem? (i := 8) rfl))) (mvT hZ (hw _ (List.mem_of_getElem? (i := 9) rfl))) (mvT hZ (hw _ (List.mem_of_getElem? (i := 10) rfl))) (by decide) (backOfS (W := 1) (rm2 l Z a0 hw [] b39 pa ar it (.int (0 : Int32)) (.int (0 : Int32)) (.int (0 : Int32)) h39 n0 Zs43 A39 F_particles_b39 F_archive_b39 F_iterations_b39 ge40 (own_ge1 h_pa) (own_ge1 h_ar) (own_ge1 h_it)) hZ (hw _ (List.mem_of_getElem? (i := 10) rfl)) (hw _ (List.mem_of_getElem? (i := 7) rfl)) (by decide) (by decide)) (g := (mkF m 38 #[.val (.int p1), .val (.int p2), .val (.int p3), .val (.int pa), .val (.int ar), .val (.int it), .unset, .unset, .unset, .unset, .unset] [(.int it), (.int ar), (.int pa), (.ref b39), (.ref b39)])) rfl (by rw [hml]; rfl) (Steps.refl _) (a := b39) (argsL := [(.int pa), (.int ar), (.int it)]) (rest := [(.ref b39)]) (lenOf own_pd3 rfl) rfl (by show 2 * 0 + _ ≤ _; exact Nat.le_of_eq rfl) (hb hby at_38) (fun _ _ => ⟨rfl, e39, (by decide : 1 + 6 ≤ _), (by decide : 3 + 3084 ≤ _)⟩)
  dsimp only [Pt.U, Pt.locs, Pt.cells, Pt.slots] at X44 l44 y44 z44 st44 hQ44 hSn44 hgr44
  subst l44 y44 z44
  have hZn44 : Z.Warmed39 T44.vm := State.Warmed39.trans hZ hSn44.1
  have hownn44 : T44.vm.findClass "com/example/swarmfront/swarmfront/swarm/BudgetEvaluationsPinLaw" = some m.cls := by rw [hSn44.1.alike.findClass]; exact hown
  have hZ := hZn44
  have hown := hownn44
  obtain ⟨rfl, Nq44, Kq44, Fq44_0, Fq44_1, Fq44_2⟩ := hQ44
  have N44 := Fr.app N38 Nq44
  have A39_c45 := A39.keep Kq44
  have kq46 := Nat.le_trans kq42 Kq44.1
  have Zs47 : n0 ≤ T44.heap.size := Nat.le_trans Zs43 Kq44.1
  refine own_upW ?_ (fun t k => st44.trans k)
  show own_GW p.tables e below s _ _ _ (T44.setTop (mkF m 41 #[.val (.int p1), .val (.int p2), .val (.int p3), .val (.int pa), .val (.int ar), .val (.int it), .unset, .unset, .unset, .unset, .unset] [(.ref b39)]))
  refine own_upW ?_ fun t k => XS.astore X44.here hx rfl (hb hby at_41) rfl rfl (l' := #[.val (.int p1), .val (.int p2), .val (.int p3), .val (.int pa), .val (.int ar), .val (.int it), .val (.ref b39), .unset, .unset, .unset, .unset]) rfl k
  show own_GW p.tables e below s _ _ _ (T44.setTop (mkF m 43 #[.val (.int p1), .val (.int p2), .val (.int p3), .val (.int pa), .val (.int ar), .val (.int it), .val (.ref b39), .unset, .unset, .unset, .unset] []))
  refine own_upW ?_ fun t k => XS.aload X44.here hx rfl (hb hby at_43) rfl rfl k
  show own_GW p.tables e below s _ _ _ (T44.setTop (mkF m 45 #[.val (.int p1), .val (.int p2), .val (.int p3), .val (.int pa), .val (.int ar), .val (.int it), .val (.ref b39), .unset, .unset, .unset, .unset] [(.ref b39)]))
  obtain ⟨cq48, kq48, q48a, q48b, q48c⟩ := isOf hZ rfl A39_c45
  obtain ⟨_, _, ⟨T48, L48, k48, n48⟩, -, X48, ⟨Lc48, hQ48, l48, y48, z48⟩, st48⟩ := X44.virtualBack hx (y := (⟨"com/example/swarmfront/swarmfront/swarm/Budget", "evaluations", "()J"⟩ : MethodName)) (z := (⟨"com/example/swarmfront/swarmfront/swarm/Budget", "evaluations", "()J"⟩ : MethodName)) hown (mvT hZ (hw _ (List.mem_of_getElem? (i := 38) rfl))) (mvT hZ (hw _ (List.mem_of_getElem? (i := 39) rfl))) (notFace_of_selects (args := #[]) (mvT hZ (hw _ (List.mem_of_getElem? (i := 41) rfl)))) (mvT hZ (hw _ (List.mem_of_getElem? (i := 41) rfl))) (mvT hZ (hw _ (List.mem_of_getElem? (i := 40) rfl))) (by decide) (backOf (W := 0) (rm6 l Z a0 hw [] b39 pa it T44.heap n0 Zs47 Fq44_0 Fq44_2) hZ (hw _ (List.mem_of_getElem? (i := 42) rfl)) (hw _ (List.mem_of_getElem? (i := 7) rfl)) (by decide) (by decide)) q48a q48c (g := (mkF m 45 #[.val (.int p1), .val (.int p2), .val (.int p3), .val (.int pa), .val (.int ar), .val (.int it), .val (.ref b39), .unset, .unset, .unset, .unset] [(.ref b39)])) rfl (by rw [hml]; rfl) (Steps.refl _) (argsL := []) (rest := []) (lenOf own_pd4 rfl) rfl (by show 2 * 0 + _ ≤ _; exact Nat.le_of_eq rfl) (hb hby at_45) (fun _ _ => ⟨rfl, rfl, (by decide : 7 + 0 ≤ _), (by decide : 3087 + 0 ≤ _)⟩)
  dsimp only [Pt.U, Pt.locs, Pt.cells, Pt.slots] at X48 l48 y48 z48 st48 hQ48
  subst l48 y48 z48
  obtain ⟨rfl, Nq48, e48⟩ := hQ48
  have N48 := Fr.app N44 Nq48
  refine own_upW ?_ (fun t k => st48.trans k)
  show own_GW p.tables e below s _ _ _ (T48.setTop (mkF m 48 #[.val (.int p1), .val (.int p2), .val (.int p3), .val (.int pa), .val (.int ar), .val (.int it), .val (.ref b39), .unset, .unset, .unset, .unset] [(.long ((pa.toInt64) * ((it.toInt64) + (1 : Int64))))]))
  refine own_upW ?_ fun t k => XS.lstore X48.here hx rfl (hb hby at_48) rfl (l' := #[.val (.int p1), .val (.int p2), .val (.int p3), .val (.int pa), .val (.int ar), .val (.int it), .val (.ref b39), .val (.long ((pa.toInt64) * ((it.toInt64) + (1 : Int64)))), .second, .unset, .unset]) rfl k
  show own_GW p.tables e below s _ _ _ (T48.setTop (mkF m 50 #[.val (.int p1), .val (.int p2), .val (.int p3), .val (.int pa), .val (.int ar), .val (.int it), .val (.ref b39), .val (.long ((pa.toInt64) * ((it.toInt64) + (1 : Int64)))), .second, .unset, .unset] []))
  obtain ⟨ev, h_ev⟩ : ∃ z, z = ((pa.toInt64) * ((it.toInt64) + (1 : Int64))) := ⟨_, rfl⟩
  rw [← h_ev]
  show own_GW p.tables e below s _ _ _ (T48.setTop (mkF m 50 #[.val (.int p1), .val (.int p2), .val (.int p3), .val (.int pa), .val (.int ar), .val (.int it), .val (.ref b39), .val (.long ev), .second, .unset, .unset] []))
  refine own_upW ?_ fun t k => XS.iload X48.here hx rfl (hb hby at_50) rfl k
  show own_GW p.tables e below s _ _ _ (T48.setTop (mkF m 52 #[.val (.int p1), .val (.int p2), .val (.int p3), .val (.int pa), .val (.int ar), .val (.int it), .val (.ref b39), .val (.long ev), .second, .unset, .unset] [(.int it)]))
  refine own_upW ?_ fun t k => XS.i2l X48.here hx rfl (hb hby at_52) rfl k
  show own_GW p.tables e below s _ _ _ (T48.setTop (mkF m 53 #[.val (.int p1), .val (.int p2), .val (.int p3), .val (.int pa), .val (.int ar), .val (.int it), .val (.ref b39), .val (.long ev), .second, .unset, .unset] [(.long (it.toInt64))]))
  refine own_upW ?_ fun t k => XS.lconst X48.here hx rfl (hb hby at_53) k
  show own_GW p.tables e below s _ _ _ (T48.setTop (mkF m 54 #[.val (.int p1), .val (.int p2), .val (.int p3), .val (.int pa), .val (.int ar), .val (.int it), .val (.ref b39), .val (.long ev), .second, .unset, .unset] [(.long (1 : Int64)), (.long (it.toInt64))]))
  refine own_upW ?_ fun t k => XS.ladd X48.here hx rfl (hb hby at_54) rfl k
  show own_GW p.tables e below s _ _ _ (T48.setTop (mkF m 55 #[.val (.int p1), .val (.int p2), .val (.int p3), .val (.int pa), .val (.int ar), .val (.int it), .val (.ref b39), .val (.long ev), .second, .unset, .unset] [(.long ((it.toInt64) + (1 : Int64)))]))
  refine own_upW ?_ fun t k => XS.lstore X48.here hx rfl (hb hby at_55) rfl (l' := #[.val (.int p1), .val (.int p2), .val (.int p3), .val (.int pa), .val (.int ar), .val (.int it), .val (.ref b39), .val (.long ev), .second, .val (.long ((it.toInt64) + (1 : Int64))), .second]) rfl k
  show own_GW p.tables e below s _ _ _ (T48.setTop (mkF m 57 #[.val (.int p1), .val (.int p2), .val (.int p3), .val (.int pa), .val (.int ar), .val (.int it), .val (.ref b39), .val (.long ev), .second, .val (.long ((it.toInt64) + (1 : Int64))), .second] []))
  obtain ⟨nn, h_nn⟩ : ∃ z, z = ((it.toInt64) + (1 : Int64)) := ⟨_, rfl⟩
  rw [← h_nn]
  show own_GW p.tables e below s _ _ _ (T48.setTop (mkF m 57 #[.val (.int p1), .val (.int p2), .val (.int p3), .val (.int pa), .val (.int ar), .val (.int it), .val (.ref b39), .val (.long ev), .second, .val (.long nn), .second] []))
  refine own_upW ?_ fun t k => XS.lload X48.here hx rfl (hb hby at_57) rfl k
  show own_GW p.tables e below s _ _ _ (T48.setTop (mkF m 59 #[.val (.int p1), .val (.int p2), .val (.int p3), .val (.int pa), .val (.int ar), .val (.int it), .val (.ref b39), .val (.long ev), .second, .val (.long nn), .second] [(.long ev)]))
  refine own_upW ?_ fun t k => XS.lconst X48.here hx rfl (hb hby at_59) k
  show own_GW p.tables e below s _ _ _ (T48.setTop (mkF m 60 #[.val (.int p1), .val (.int p2), .val (.int p3), .val (.int pa), .val (.int ar), .val (.int it), .val (.ref b39), .val (.long ev), .second, .val (.long nn), .second] [(.long (0 : Int64)), (.long ev)]))
  refine own_upW ?_ fun t k => XS.lcmp X48.here hx rfl (hb hby at_60) rfl k
  show own_GW p.tables e below s _ _ _ (T48.setTop (mkF m 61 #[.val (.int p1), .val (.int p2), .val (.int p3), .val (.int pa), .val (.int ar), .val (.int it), .val (.ref b39), .val (.long ev), .second, .val (.long nn), .second] [(.int (lcmpW ev (0 : Int64)))]))
  refine own_upW ?_ fun t k => XS.ifNo X48.here hx rfl (hb hby at_61) rfl ((if0 _ _).trans (tlt ((lw_gt _ _).mpr (own_c1 h_pa h_it h_ev h_nn : ((0 : Int64) < ev)))).2.2.2) k
  show own_GW p.tables e below s _ _ _ (T48.setTop (mkF m 64 #[.val (.int p1), .val (.int p2), .val (.int p3), .val (.int pa), .val (.int ar), .val (.int it), .val (.ref b39), .val (.long ev), .second, .val (.long nn), .second] []))
  refine own_upW ?_ fun t k => XS.lload X48.here hx rfl (hb hby at_64) rfl k
  show own_GW p.tables e below s _ _ _ (T48.setTop (mkF m 66 #[.val (.int p1), .val (.int p2), .val (.int p3), .val (.int pa), .val (.int ar), .val (.int it), .val (.ref b39), .val (.long ev), .second, .val (.long nn), .second] [(.long ev)]))
  refine own_upW ?_ fun t k => XS.iloadN X48.here hx rfl (hb hby at_66) rfl k
  show own_GW p.tables e below s _ _ _ (T48.setTop (mkF m 67 #[.val (.int p1), .val (.int p2), .val (.int p3), .val (.int pa), .val (.int ar), .val (.int it), .val (.ref b39), .val (.long ev), .second, .val (.long nn), .second] [(.int pa), (.long ev)]))
  refine own_upW ?_ fun t k => XS.i2l X48.here hx rfl (hb hby at_67) rfl k
  show own_GW p.tables e below s _ _ _ (T48.setTop (mkF m 68 #[.val (.int p1), .val (.int p2), .val (.int p3), .val (.int pa), .val (.int ar), .val (.int it), .val (.ref b39), .val (.long ev), .second, .val (.long nn), .second] [(.long (pa.toInt64)), (.long ev)]))
  refine own_upW ?_ fun t k => XS.lrem X48.here hx rfl (hb hby at_68) rfl (own_nzp h_pa) k
  show own_GW p.tables e below s _ _ _ (T48.setTop (mkF m 69 #[.val (.int p1), .val (.int p2), .val (.int p3), .val (.int pa), .val (.int ar), .val (.int it), .val (.ref b39), .val (.long ev), .second, .val (.long nn), .second] [(.long (ev - (ev / (pa.toInt64)) * (pa.toInt64)))]))
  refine own_upW ?_ fun t k => XS.lconst X48.here hx rfl (hb hby at_69) k
  show own_GW p.tables e below s _ _ _ (T48.setTop (mkF m 70 #[.val (.int p1), .val (.int p2), .val (.int p3), .val (.int pa), .val (.int ar), .val (.int it), .val (.ref b39), .val (.long ev), .second, .val (.long nn), .second] [(.long (0 : Int64)), (.long (ev - (ev / (pa.toInt64)) * (pa.toInt64)))]))
  refine own_upW ?_ fun t k => XS.lcmp X48.here hx rfl (hb hby at_70) rfl k
  show own_GW p.tables e below s _ _ _ (T48.setTop (mkF m 71 #[.val (.int p1), .val (.int p2), .val (.int p3), .val (.int pa), .val (.int ar), .val (.int it), .val (.ref b39), .val (.long ev), .second, .val (.long nn), .second] [(.int (lcmpW (ev - (ev / (pa.toInt64)) * (pa.toInt64)) (0 : Int64)))]))
  refine own_upW ?_ fun t k => XS.ifNo X48.here hx rfl (hb hby at_71) rfl ((if0 _ _).trans (teq ((lw_eq _ _).mpr (own_c2 h_pa h_it h_ev h_nn : ((ev - (ev / (pa.toInt64)) * (pa.toInt64)) = (0 : Int64))))).2) k
  show own_GW p.tables e below s _ _ _ (T48.setTop (mkF m 74 #[.val (.int p1), .val (.int p2), .val (.int p3), .val (.int pa), .val (.int ar), .val (.int it), .val (.ref b39), .val (.long ev), .second, .val (.long nn), .second] []))
  refine own_upW ?_ fun t k => XS.lload X48.here hx rfl (hb hby at_74) rfl k
  show own_GW p.tables e below s _ _ _ (T48.setTop (mkF m 76 #[.val (.int p1), .val (.int p2), .val (.int p3), .val (.int pa), .val (.int ar), .val (.int it), .val (.ref b39), .val (.long ev), .second, .val (.long nn), .second] [(.long ev)]))
  refine own_upW ?_ fun t k => XS.iloadN X48.here hx rfl (hb hby at_76) rfl k
  show own_GW p.tables e below s _ _ _ (T48.setTop (mkF m 77 #[.val (.int p1), .val (.int p2), .val (.int p3), .val (.int pa), .val (.int ar), .val (.int it), .val (.ref b39), .val (.long ev), .second, .val (.long nn), .second] [(.int pa), (.long ev)]))
  refine own_upW ?_ fun t k => XS.i2l X48.here hx rfl (hb hby at_77) rfl k
  show own_GW p.tables e below s _ _ _ (T48.setTop (mkF m 78 #[.val (.int p1), .val (.int p2), .val (.int p3), .val (.int pa), .val (.int ar), .val (.int it), .val (.ref b39), .val (.long ev), .second, .val (.long nn), .second] [(.long (pa.toInt64)), (.long ev)]))
  refine own_upW ?_ fun t k => XS.ldiv X48.here hx rfl (hb hby at_78) rfl (own_nzp h_pa) k
  show own_GW p.tables e below s _ _ _ (T48.setTop (mkF m 79 #[.val (.int p1), .val (.int p2), .val (.int p3), .val (.int pa), .val (.int ar), .val (.int it), .val (.ref b39), .val (.long ev), .second, .val (.long nn), .second] [(.long (ev / (pa.toInt64)))]))
  refine own_upW ?_ fun t k => XS.lload X48.here hx rfl (hb hby at_79) rfl k
  show own_GW p.tables e below s _ _ _ (T48.setTop (mkF m 81 #[.val (.int p1), .val (.int p2), .val (.int p3), .val (.int pa), .val (.int ar), .val (.int it), .val (.ref b39), .val (.long ev), .second, .val (.long nn), .second] [(.long nn), (.long (ev / (pa.toInt64)))]))
  refine own_upW ?_ fun t k => XS.lcmp X48.here hx rfl (hb hby at_81) rfl k
  show own_GW p.tables e below s _ _ _ (T48.setTop (mkF m 82 #[.val (.int p1), .val (.int p2), .val (.int p3), .val (.int pa), .val (.int ar), .val (.int it), .val (.ref b39), .val (.long ev), .second, .val (.long nn), .second] [(.int (lcmpW (ev / (pa.toInt64)) nn))]))
  refine own_upW ?_ fun t k => XS.ifNo X48.here hx rfl (hb hby at_82) rfl ((if0 _ _).trans (teq ((lw_eq _ _).mpr (own_c3 h_pa h_it h_ev h_nn : ((ev / (pa.toInt64)) = nn)))).2) k
  show own_GW p.tables e below s _ _ _ (T48.setTop (mkF m 85 #[.val (.int p1), .val (.int p2), .val (.int p3), .val (.int pa), .val (.int ar), .val (.int it), .val (.ref b39), .val (.long ev), .second, .val (.long nn), .second] []))
  refine own_upW ?_ fun t k => XS.lload X48.here hx rfl (hb hby at_85) rfl k
  show own_GW p.tables e below s _ _ _ (T48.setTop (mkF m 87 #[.val (.int p1), .val (.int p2), .val (.int p3), .val (.int pa), .val (.int ar), .val (.int it), .val (.ref b39), .val (.long ev), .second, .val (.long nn), .second] [(.long ev)]))
  refine own_upW ?_ fun t k => XS.lload X48.here hx rfl (hb hby at_87) rfl k
  show own_GW p.tables e below s _ _ _ (T48.setTop (mkF m 89 #[.val (.int p1), .val (.int p2), .val (.int p3), .val (.int pa), .val (.int ar), .val (.int it), .val (.ref b39), .val (.long ev), .second, .val (.long nn), .second] [(.long nn), (.long ev)]))
  refine own_upW ?_ fun t k => XS.lrem X48.here hx rfl (hb hby at_89) rfl (own_nzn h_it h_nn) k
  show own_GW p.tables e below s _ _ _ (T48.setTop (mkF m 90 #[.val (.int p1), .val (.int p2), .val (.int p3), .val (.int pa), .val (.int ar), .val (.int it), .val (.ref b39), .val (.long ev), .second, .val (.long nn), .second] [(.long (ev - (ev / nn) * nn))]))
  refine own_upW ?_ fun t k => XS.lconst X48.here hx rfl (hb hby at_90) k
  show own_GW p.tables e below s _ _ _ (T48.setTop (mkF m 91 #[.val (.int p1), .val (.int p2), .val (.int p3), .val (.int pa), .val (.int ar), .val (.int it), .val (.ref b39), .val (.long ev), .second, .val (.long nn), .second] [(.long (0 : Int64)), (.long (ev - (ev / nn) * nn))]))
  refine own_upW ?_ fun t k => XS.lcmp X48.here hx rfl (hb hby at_91) rfl k
  show own_GW p.tables e below s _ _ _ (T48.setTop (mkF m 92 #[.val (.int p1), .val (.int p2), .val (.int p3), .val (.int pa), .val (.int ar), .val (.int it), .val (.ref b39), .val (.long ev), .second, .val (.long nn), .second] [(.int (lcmpW (ev - (ev / nn) * nn) (0 : Int64)))]))
  refine own_upW ?_ fun t k => XS.ifNo X48.here hx rfl (hb hby at_92) rfl ((if0 _ _).trans (teq ((lw_eq _ _).mpr (own_c4 h_pa h_it h_ev h_nn : ((ev - (ev / nn) * nn) = (0 : Int64))))).2) k
  show own_GW p.tables e below s _ _ _ (T48.setTop (mkF m 95 #[.val (.int p1), .val (.int p2), .val (.int p3), .val (.int pa), .val (.int ar), .val (.int it), .val (.ref b39), .val (.long ev), .second, .val (.long nn), .second] []))
  refine own_upW ?_ fun t k => XS.lload X48.here hx rfl (hb hby at_95) rfl k
  show own_GW p.tables e below s _ _ _ (T48.setTop (mkF m 97 #[.val (.int p1), .val (.int p2), .val (.int p3), .val (.int pa), .val (.int ar), .val (.int it), .val (.ref b39), .val (.long ev), .second, .val (.long nn), .second] [(.long ev)]))
  refine own_upW ?_ fun t k => XS.lload X48.here hx rfl (hb hby at_97) rfl k
  show own_GW p.tables e below s _ _ _ (T48.setTop (mkF m 99 #[.val (.int p1), .val (.int p2), .val (.int p3), .val (.int pa), .val (.int ar), .val (.int it), .val (.ref b39), .val (.long ev), .second, .val (.long nn), .second] [(.long nn), (.long ev)]))
  refine own_upW ?_ fun t k => XS.ldiv X48.here hx rfl (hb hby at_99) rfl (own_nzn h_it h_nn) k
  show own_GW p.tables e below s _ _ _ (T48.setTop (mkF m 100 #[.val (.int p1), .val (.int p2), .val (.int p3), .val (.int pa), .val (.int ar), .val (.int it), .val (.ref b39), .val (.long ev), .second, .val (.long nn), .second] [(.long (ev / nn))]))
  refine own_upW ?_ fun t k => XS.iloadN X48.here hx rfl (hb hby at_100) rfl k
  show own_GW p.tables e below s _ _ _ (T48.setTop (mkF m 101 #[.val (.int p1), .val (.int p2), .val (.int p3), .val (.int pa), .val (.int ar), .val (.int it), .val (.ref b39), .val (.long ev), .second, .val (.long nn), .second] [(.int pa), (.long (ev / nn))]))
  refine own_upW ?_ fun t k => XS.i2l X48.here hx rfl (hb hby at_101) rfl k
  show own_GW p.tables e below s _ _ _ (T48.setTop (mkF m 102 #[.val (.int p1), .val (.int p2), .val (.int p3), .val (.int pa), .val (.int ar), .val (.int it), .val (.ref b39), .val (.long ev), .second, .val (.long nn), .second] [(.long (pa.toInt64)), (.long (ev / nn))]))
  refine own_upW ?_ fun t k => XS.lcmp X48.here hx rfl (hb hby at_102) rfl k
  show own_GW p.tables e below s _ _ _ (T48.setTop (mkF m 103 #[.val (.int p1), .val (.int p2), .val (.int p3), .val (.int pa), .val (.int ar), .val (.int it), .val (.ref b39), .val (.long ev), .second, .val (.long nn), .second] [(.int (lcmpW (ev / nn) (pa.toInt64)))]))
  refine own_upW ?_ fun t k => XS.ifNo X48.here hx rfl (hb hby at_103) rfl ((if0 _ _).trans (teq ((lw_eq _ _).mpr (own_c5 h_pa h_it h_ev h_nn : ((ev / nn) = (pa.toInt64))))).2) k
  show own_GW p.tables e below s _ _ _ (T48.setTop (mkF m 106 #[.val (.int p1), .val (.int p2), .val (.int p3), .val (.int pa), .val (.int ar), .val (.int it), .val (.ref b39), .val (.long ev), .second, .val (.long nn), .second] []))
  refine own_upW ?_ fun t k => XS.iconst X48.here hx rfl (hb hby at_106) k
  show own_GW p.tables e below s _ _ _ (T48.setTop (mkF m 107 #[.val (.int p1), .val (.int p2), .val (.int p3), .val (.int pa), .val (.int ar), .val (.int it), .val (.ref b39), .val (.long ev), .second, .val (.long nn), .second] [(.int (1 : Int32))]))
  refine own_upW ?_ fun t k => XS.goto X48.here hx rfl (pc0 := 107) (pc' := 111) rfl (hb hby at_107) (by decide) (by decide) k
  show own_GW p.tables e below s _ _ _ (T48.setTop (mkF m 111 #[.val (.int p1), .val (.int p2), .val (.int p3), .val (.int pa), .val (.int ar), .val (.int it), .val (.ref b39), .val (.long ev), .second, .val (.long nn), .second] [(.int (1 : Int32))]))
  exact own_retIW X48 hx hlk Bd.returns (hS0.trans hSn44 (Nat.zero_le _)) (by rw [e48]; exact (Nat.le_refl _)) (by simp) rfl (hb hby at_111) ⟨rfl, N48⟩ (by decide) (by decide)
set_option maxRecDepth 65536 in
set_option maxHeartbeats 40000000 in
theorem comes_1 {Post : Tables → Env → Array Value → State → Outcome → State → Prop} (hpost : ∀ tb e args s v u, (limb_1_1.after args s (.returned v) u = true ∧ limb_1_2.after args s (.returned v) u = true ∧ True) → ReturnedEndW s (.returned v) u (Jvm.fieldLocs frame_1_writes args s ++ Jvm.arrayLocs frame_1_arrays args s ++ Jvm.staticLocs frame_1_statics s) 16 3200 → Post tb e args s (.returned v) u) :
    ArmFor flags0 classFile x code maxLocals ret World_1 tables_1 room_1 Calls_1 rest_1 Pre_1 Post := by
  intro l hfl _ _ p e ha hc hk s m args below hf hA hF happ hP
  obtain ⟨hcalls, hrest, hpre⟩ := hP
  obtain ⟨-, -, -, hnamed, -, -, -, hat⟩ := (Spec.applies_iff hf).mp happ
  obtain ⟨hg, hn⟩ := and_e (Cond.before_iff.mp (show (Jvm.Cond.and given_1 narrow_1).before args s = true from hpre))
  obtain ⟨gc, g0⟩ := and_e hg
  obtain ⟨gv0, g1⟩ := and_e g0
  obtain ⟨gv1, g2⟩ := and_e g1
  obtain ⟨w0, w1, w2, rfl⟩ : ∃ w0 w1 w2 : Value, args = #[w0, w1, w2] := by
    have hs : args.size = 3 := by simpa [Cond.value, given_1] using gc
    obtain ⟨L⟩ := args
    match L, hs with
    | [w0, w1, w2], _ => exact ⟨w0, w1, w2, rfl⟩
  have hw := fun d (hd : d ∈ tables_1) => atoms_spec (ws := Jvm.Cond.code x code maxLocals ret :: tables_1) hat d (List.mem_cons_of_mem _ hd)
  have hfit : Fit s := fun {y c} hc i hi => by
    obtain ⟨ha, rfl⟩ := Array.getElem?_eq_some_iff.mp hc
    have q := List.all_eq_true.mp ((Array.all_eq_true_iff_forall_mem.mp hF) _ (Array.getElem_mem ha)) i (List.mem_range.mpr hi)
    simpa [Array.getElem?_eq_getElem hi] using q
  obtain ⟨i0, ei0⟩ := is_v gv0
  obtain rfl : w0 = (.int i0) := Option.some.inj ei0
  obtain ⟨i1, ei1⟩ := is_v gv1
  obtain rfl : w1 = (.int i1) := Option.some.inj ei1
  obtain ⟨i2, ei2⟩ := is_v g2
  obtain rfl : w2 = (.int i2) := Option.some.inj ei2
  obtain ⟨n, o, h1, h2, h3, _, L, rfl, ⟨rfl, N⟩, hq⟩ := rm0 l s _ hw tables_1 i0 i1 i2  s.heap s.heap.size (Nat.le_refl _)  p e ha hc hk s m _ below hf ((Spec.applies_iff_loose hf).mp happ).1 ⟨rfl, State.Warmed39.refl s, rfl⟩ trivial
  refine ⟨n, _, h1, h2, h3, hpost _ _ _ _ _ _ ⟨Cond.after_iff.mpr rfl, Cond.after_iff.mpr (eq_i res_at (Term.int_eval (1)) rfl), trivial⟩ ⟨hq.1, hq.2.1, hq.2.2.1, (hq.2.2.2.sift fun y hy => Or.inr (N y hy)).mono (by decide) (by decide)⟩⟩
theorem main_1_1 : Claimed_1_1 := comes_1 fun _ _ _ _ _ _ h hF => ⟨h.1, hF⟩
theorem main_1_2 : Claimed_1_2 := comes_1 fun _ _ _ _ _ _ h hF => ⟨h.2.1, hF⟩
end Jvm.Pilot.@@N@@
namespace Jvm.Pilot.@@N@@
open Jvm Jvm.ClassFile Sem Op Lib Jvm.Free Jvm.Stand Jvm.Pilot.@@N@@.Jvm.D
/-! MADE BY PROGRAM (witnessworld.py) out of the Statement's table words and the real class files: 16 classes; the members and pool entries that the words name. The judged class is class 1, her method 1. -/
namespace start1
open Jvm.ClassFile
def u (s : String) : CpInfo := .utf8 (stringToUtf16 s)
/-- a pool by its gaps: so many unusable entries, then the entry; so many at the end -/
def gap : Nat → List CpInfo → List CpInfo
  | 0, r => r
  | n + 1, r => .unusable :: gap n r
def poolList (es : List (Nat × CpInfo)) (last : Nat) : List CpInfo := es.foldr (fun e r => gap e.1 (e.2 :: r)) (gap last [])
def pool (es : List (Nat × CpInfo)) (last : Nat) : Array CpInfo := ⟨poolList es last⟩
def fileOf (pool : Array CpInfo) (this : Nat) (attrs : Array Attribute := #[]) (ms : Array MethodInfo := #[]) (fl : Nat := 33) (sup : Nat := 0) (ifs : Array Nat := #[]) (fds : Array FieldInfo := #[]) : ClassFile where
  minorVersion := 0
  majorVersion := 65
  constantPool := pool
  accessFlags := fl
  thisClass := this
  superClass := sup
  interfaces := ifs
  fields := fds
  methods := ms
  attributes := attrs
def plain (name : String) (sup : Option ClassId) : Class where
  name := name
  kind := .ordinary
  loader := none
  accessFlags := 33
  super := sup
  interfaces := #[]
  cf := none
  fields := #[]
  methods := #[]
  instanceTypes := #[]
  staticTypes := #[]
  resolved := #[]
  callSites := []
  init := .initialized
  statics := none
  mirror := none

def pool0 : Array CpInfo := pool [(5, u "<init>"), (0, u "()V"), (1, .class_ 10), (1, u "java/lang/Object")] 113

def k0c0 : Code := { maxStack := 0, maxLocals := 1, code := object_method_1_code, exceptionTable := #[], attributes := #[] }
def k0m0 : Method := { name := "<init>", desc := "()V", sig := { parameters := [], returnType := none }, accessFlags := 1, code := some k0c0 }
/-- java/lang/Object -/
def k0 : Class := { plain "java/lang/Object" none with
  accessFlags := 33
  interfaces := #[]
  cf := some (fileOf pool0 8 #[] #[{ accessFlags := 1, nameIndex := 5, descriptorIndex := 6, attributes := #[] }] 33 0 #[] #[])
  fields := #[]
  methods := #[k0m0]
  instanceTypes := #[]
  staticTypes := #[]
  resolved := Array.replicate 124 none
  statics := none }

def pool1 : Array CpInfo := pool [(2, .class_ 4), (1, u "java/lang/Object"), (0, u "<init>"), (0, u "()V"), (0, .integer 2147483647), (0, .methodref 9 10), (0, .class_ 11), (0, .nameAndType 12 13), (0, u "java/lang/Math"), (0, u "max"), (0, u "(II)I"), (0, .class_ 15), (0, u "com/example/swarmfront/swarmfront/swarm/Budget"), (0, .methodref 14 17), (0, .nameAndType 5 18), (0, u "(III)V"), (0, .methodref 14 20), (0, .nameAndType 21 22), (0, u "evaluations"), (0, u "()J"), (0, .class_ 24), (0, u "com/example/swarmfront/swarmfront/swarm/BudgetEvaluationsPinLaw"), (2, u "law"), (0, u "(III)Z")] 3

def k1m0 : Method := { name := "<init>", desc := "()V", sig := { parameters := [], returnType := none }, accessFlags := 1, code := none }
def k1c1 : Code := { maxStack := 5, maxLocals := 11, code := code, exceptionTable := #[], attributes := #[] }
def k1m1 : Method := { name := "law", desc := "(III)Z", sig := { parameters := [.int, .int, .int], returnType := some .boolean }, accessFlags := 9, code := some k1c1 }
/-- com/example/swarmfront/swarmfront/swarm/BudgetEvaluationsPinLaw -/
def k1 : Class := { plain "com/example/swarmfront/swarmfront/swarm/BudgetEvaluationsPinLaw" (some 0) with
  accessFlags := 49
  interfaces := #[]
  cf := some (fileOf pool1 23 #[] #[{ accessFlags := 1, nameIndex := 5, descriptorIndex := 6, attributes := #[] }, { accessFlags := 9, nameIndex := 27, descriptorIndex := 28, attributes := #[] }] 49 2 #[] #[])
  fields := #[]
  methods := #[k1m0, k1m1]
  instanceTypes := #[]
  staticTypes := #[]
  resolved := Array.replicate 32 none
  statics := none }

def pool2 : Array CpInfo := pool [(1, .class_ 2), (0, u "java/lang/Math"), (1, .class_ 6), (1, u "java/lang/Object"), (0, u "<init>"), (0, u "()V"), (89, .class_ 100), (1, u "java/lang/Math$RandomNumberGeneratorHolder"), (71, u "negativeZeroFloatBits"), (0, u "J"), (2, u "negativeZeroDoubleBits"), (21, u "max"), (46, u "$assertionsDisabled"), (0, u "Z"), (88, u "(II)I"), (2, u "twoToTheDoubleScaleDown"), (0, u "D"), (4, u "twoToTheDoubleScaleUp"), (9, u "E"), (3, u "PI"), (2, u "TAU"), (2, u "DEGREES_TO_RADIANS"), (0, u "RADIANS_TO_DEGREES")] 94

def k2m0 : Method := { name := "<init>", desc := "()V", sig := { parameters := [], returnType := none }, accessFlags := 2, code := none }
def k2c1 : Code := { maxStack := 2, maxLocals := 2, code := jdk_29_method_65_code, exceptionTable := #[], attributes := #[] }
def k2m1 : Method := { name := "max", desc := "(II)I", sig := { parameters := [.int, .int], returnType := some .int }, accessFlags := 9, code := some k2c1 }
/-- java/lang/Math -/
def k2 : Class := { plain "java/lang/Math" (some 0) with
  accessFlags := 49
  interfaces := #[]
  cf := some (fileOf pool2 1 #[.nestMembers #[98]] #[{ accessFlags := 2, nameIndex := 7, descriptorIndex := 8, attributes := #[] }, { accessFlags := 9, nameIndex := 198, descriptorIndex := 335, attributes := #[] }] 49 4 #[] #[{ accessFlags := 25, nameIndex := 354, descriptorIndex := 339, attributes := #[] }, { accessFlags := 25, nameIndex := 358, descriptorIndex := 339, attributes := #[] }, { accessFlags := 25, nameIndex := 361, descriptorIndex := 339, attributes := #[] }, { accessFlags := 26, nameIndex := 364, descriptorIndex := 339, attributes := #[] }, { accessFlags := 26, nameIndex := 365, descriptorIndex := 339, attributes := #[] }, { accessFlags := 26, nameIndex := 172, descriptorIndex := 173, attributes := #[] }, { accessFlags := 26, nameIndex := 176, descriptorIndex := 173, attributes := #[] }, { accessFlags := 8, nameIndex := 344, descriptorIndex := 339, attributes := #[] }, { accessFlags := 8, nameIndex := 338, descriptorIndex := 339, attributes := #[] }, { accessFlags := 4120, nameIndex := 245, descriptorIndex := 246, attributes := #[] }])
  fields := #[{ name := "E", type := .double, accessFlags := 25, slot := 0, constantValue := 0 }, { name := "PI", type := .double, accessFlags := 25, slot := 1, constantValue := 0 }, { name := "TAU", type := .double, accessFlags := 25, slot := 2, constantValue := 0 }, { name := "DEGREES_TO_RADIANS", type := .double, accessFlags := 26, slot := 3, constantValue := 0 }, { name := "RADIANS_TO_DEGREES", type := .double, accessFlags := 26, slot := 4, constantValue := 0 }, { name := "negativeZeroFloatBits", type := .long, accessFlags := 26, slot := 5, constantValue := 0 }, { name := "negativeZeroDoubleBits", type := .long, accessFlags := 26, slot := 6, constantValue := 0 }, { name := "twoToTheDoubleScaleUp", type := .double, accessFlags := 8, slot := 7, constantValue := 0 }, { name := "twoToTheDoubleScaleDown", type := .double, accessFlags := 8, slot := 8, constantValue := 0 }, { name := "$assertionsDisabled", type := .boolean, accessFlags := 4120, slot := 9, constantValue := 0 }]
  methods := #[k2m0, k2m1]
  instanceTypes := #[]
  staticTypes := #[.double, .double, .double, .double, .double, .long, .long, .double, .double, .boolean]
  resolved := Array.replicate 460 none
  statics := none }

def pool3 : Array CpInfo := pool [(1, .methodref 2 3), (0, .class_ 4), (0, .nameAndType 5 6), (0, u "java/lang/Object"), (0, u "<init>"), (0, u "()V"), (0, .class_ 8), (0, u "java/lang/Record")] 13

def k3c0 : Code := { maxStack := 1, maxLocals := 1, code := jdk_30_method_1_code, exceptionTable := #[], attributes := #[] }
def k3m0 : Method := { name := "<init>", desc := "()V", sig := { parameters := [], returnType := none }, accessFlags := 4, code := some k3c0 }
/-- java/lang/Record -/
def k3 : Class := { plain "java/lang/Record" (some 0) with
  accessFlags := 1057
  interfaces := #[]
  cf := some (fileOf pool3 7 #[] #[{ accessFlags := 4, nameIndex := 5, descriptorIndex := 6, attributes := #[] }] 1057 2 #[] #[])
  fields := #[]
  methods := #[k3m0]
  instanceTypes := #[]
  staticTypes := #[]
  resolved := Array.replicate 22 none
  statics := none }

def pool4 : Array CpInfo := pool [(1, .methodref 2 3), (0, .class_ 4), (0, .nameAndType 5 6), (0, u "java/lang/Record"), (0, u "<init>"), (0, u "()V"), (0, .string 8), (0, u "particles"), (0, .methodref 10 11), (0, .class_ 12), (0, .nameAndType 13 14), (0, u "com/example/swarmfront/swarmfront/swarm/Budget"), (0, u "requireAtLeastOne"), (0, u "(Ljava/lang/String;I)V"), (0, .string 16), (0, u "archive"), (0, .string 18), (0, u "iterations"), (0, .fieldref 10 20), (0, .nameAndType 8 21), (0, u "I"), (0, .fieldref 10 23), (0, .nameAndType 16 21), (0, .fieldref 10 25), (0, .nameAndType 18 21), (23, u "(III)V"), (2, u "DEFAULT"), (0, u "Lcom/example/swarmfront/swarmfront/swarm/Budget;"), (3, u "evaluations"), (0, u "()J")] 35

def k4c0 : Code := { maxStack := 2, maxLocals := 4, code := prog_17_method_1_code, exceptionTable := #[], attributes := #[] }
def k4m0 : Method := { name := "<init>", desc := "(III)V", sig := { parameters := [.int, .int, .int], returnType := none }, accessFlags := 1, code := some k4c0 }
def k4c1 : Code := { maxStack := 6, maxLocals := 1, code := prog_17_method_2_code, exceptionTable := #[], attributes := #[] }
def k4m1 : Method := { name := "evaluations", desc := "()J", sig := { parameters := [], returnType := some .long }, accessFlags := 1, code := some k4c1 }
def k4c2 : Code := { maxStack := 4, maxLocals := 2, code := prog_17_method_3_code, exceptionTable := #[], attributes := #[] }
def k4m2 : Method := { name := "requireAtLeastOne", desc := "(Ljava/lang/String;I)V", sig := { parameters := [(.object "java/lang/String"), .int], returnType := none }, accessFlags := 10, code := some k4c2 }
/-- com/example/swarmfront/swarmfront/swarm/Budget -/
def k4 : Class := { plain "com/example/swarmfront/swarmfront/swarm/Budget" (some 3) with
  accessFlags := 49
  interfaces := #[]
  cf := some (fileOf pool4 10 #[] #[{ accessFlags := 1, nameIndex := 5, descriptorIndex := 49, attributes := #[] }, { accessFlags := 1, nameIndex := 57, descriptorIndex := 58, attributes := #[] }, { accessFlags := 10, nameIndex := 13, descriptorIndex := 14, attributes := #[] }] 49 2 #[] #[{ accessFlags := 18, nameIndex := 8, descriptorIndex := 21, attributes := #[] }, { accessFlags := 18, nameIndex := 16, descriptorIndex := 21, attributes := #[] }, { accessFlags := 18, nameIndex := 18, descriptorIndex := 21, attributes := #[] }, { accessFlags := 25, nameIndex := 52, descriptorIndex := 53, attributes := #[] }])
  fields := #[{ name := "particles", type := .int, accessFlags := 18, slot := 0, constantValue := 0 }, { name := "archive", type := .int, accessFlags := 18, slot := 1, constantValue := 0 }, { name := "iterations", type := .int, accessFlags := 18, slot := 2, constantValue := 0 }, { name := "DEFAULT", type := (.object "com/example/swarmfront/swarmfront/swarm/Budget"), accessFlags := 25, slot := 0, constantValue := 0 }]
  methods := #[k4m0, k4m1, k4m2]
  instanceTypes := #[.int, .int, .int]
  staticTypes := #[(.object "com/example/swarmfront/swarmfront/swarm/Budget")]
  resolved := Array.replicate 94 none
  statics := none }

def pool5 : Array CpInfo := pool [(1, .class_ 2), (0, u "java/io/Serializable"), (0, .class_ 4), (0, u "java/lang/Object")] 2

/-- java/io/Serializable -/
def k5 : Class := { plain "java/io/Serializable" (some 0) with
  accessFlags := 1537
  interfaces := #[]
  cf := some (fileOf pool5 1 #[] #[] 1537 3 #[] #[])
  fields := #[]
  methods := #[]
  instanceTypes := #[]
  staticTypes := #[]
  resolved := Array.replicate 7 none
  statics := none }

def pool6 : Array CpInfo := pool [(1, .class_ 2), (0, u "java/lang/Comparable"), (0, .class_ 4), (0, u "java/lang/Object")] 7

/-- java/lang/Comparable -/
def k6 : Class := { plain "java/lang/Comparable" (some 0) with
  accessFlags := 1537
  interfaces := #[]
  cf := some (fileOf pool6 1 #[] #[] 1537 3 #[] #[])
  fields := #[]
  methods := #[]
  instanceTypes := #[]
  staticTypes := #[]
  resolved := Array.replicate 12 none
  statics := none }

def pool7 : Array CpInfo := pool [(2, .class_ 4), (1, u "java/lang/CharSequence"), (42, .class_ 48), (0, u "java/lang/CharSequence$1CodePointIterator"), (10, .class_ 60), (0, u "java/lang/CharSequence$1CharIterator"), (5, .class_ 67), (0, u "java/lang/Object")] 63

/-- java/lang/CharSequence -/
def k7 : Class := { plain "java/lang/CharSequence" (some 0) with
  accessFlags := 1537
  interfaces := #[]
  cf := some (fileOf pool7 2 #[.nestMembers #[47, 59]] #[] 1537 66 #[] #[])
  fields := #[]
  methods := #[]
  instanceTypes := #[]
  staticTypes := #[]
  resolved := Array.replicate 131 none
  statics := none }

def pool8 : Array CpInfo := pool [(1, .class_ 2), (0, u "java/lang/constant/Constable"), (0, .class_ 4), (0, u "java/lang/Object")] 6

/-- java/lang/constant/Constable -/
def k8 : Class := { plain "java/lang/constant/Constable" (some 0) with
  accessFlags := 1537
  interfaces := #[]
  cf := some (fileOf pool8 1 #[] #[] 1537 3 #[] #[])
  fields := #[]
  methods := #[]
  instanceTypes := #[]
  staticTypes := #[]
  resolved := Array.replicate 11 none
  statics := none }

def pool9 : Array CpInfo := pool [(1, .class_ 2), (0, u "java/lang/constant/ConstantDesc"), (0, .class_ 4), (0, u "java/lang/Object")] 32

/-- java/lang/constant/ConstantDesc -/
def k9 : Class := { plain "java/lang/constant/ConstantDesc" (some 0) with
  accessFlags := 1537
  interfaces := #[]
  cf := some (fileOf pool9 1 #[] #[] 1537 3 #[] #[])
  fields := #[]
  methods := #[]
  instanceTypes := #[]
  staticTypes := #[]
  resolved := Array.replicate 37 none
  statics := none }

def pool10 : Array CpInfo := pool [(2, .class_ 4), (1, u "java/lang/Object"), (0, u "<init>"), (0, u "()V"), (3, .class_ 12), (1, u "java/lang/String"), (0, u "value"), (0, u "[B"), (2, u "coder"), (0, u "B"), (2, u "hash"), (0, u "I"), (2, u "hashIsZero"), (0, u "Z"), (13, u "COMPACT_STRINGS"), (534, .class_ 576), (0, u "java/lang/CharSequence"), (22, u "CASE_INSENSITIVE_ORDER"), (0, u "Ljava/util/Comparator;"), (500, u "serialPersistentFields"), (0, u "[Ljava/io/ObjectStreamField;"), (0, .class_ 1104), (0, u "java/lang/String$CaseInsensitiveComparator"), (1, .class_ 1107), (0, u "java/io/Serializable"), (0, .class_ 1109), (0, u "java/lang/Comparable"), (0, .class_ 1111), (0, u "java/lang/constant/Constable"), (0, .class_ 1113), (0, u "java/lang/constant/ConstantDesc"), (2, u "serialVersionUID"), (0, u "J"), (3, u "REPL"), (0, u "C"), (2, u "LATIN1"), (1, u "UTF16")] 323

def k10m0 : Method := { name := "<init>", desc := "()V", sig := { parameters := [], returnType := none }, accessFlags := 1, code := none }
/-- java/lang/String -/
def k10 : Class := { plain "java/lang/String" (some 0) with
  accessFlags := 49
  interfaces := #[5, 6, 7, 8, 9]
  cf := some (fileOf pool10 10 #[.nestMembers #[1103]] #[{ accessFlags := 1, nameIndex := 5, descriptorIndex := 6, attributes := #[] }] 49 2 #[1106, 1108, 575, 1110, 1112] #[{ accessFlags := 18, nameIndex := 13, descriptorIndex := 14, attributes := #[] }, { accessFlags := 18, nameIndex := 17, descriptorIndex := 18, attributes := #[] }, { accessFlags := 2, nameIndex := 21, descriptorIndex := 22, attributes := #[] }, { accessFlags := 2, nameIndex := 25, descriptorIndex := 26, attributes := #[] }, { accessFlags := 26, nameIndex := 1116, descriptorIndex := 1117, attributes := #[] }, { accessFlags := 24, nameIndex := 40, descriptorIndex := 26, attributes := #[] }, { accessFlags := 26, nameIndex := 1101, descriptorIndex := 1102, attributes := #[] }, { accessFlags := 26, nameIndex := 1121, descriptorIndex := 1122, attributes := #[] }, { accessFlags := 25, nameIndex := 599, descriptorIndex := 600, attributes := #[] }, { accessFlags := 24, nameIndex := 1125, descriptorIndex := 18, attributes := #[] }, { accessFlags := 24, nameIndex := 1127, descriptorIndex := 18, attributes := #[] }])
  fields := #[{ name := "value", type := (.array .byte), accessFlags := 18, slot := 0, constantValue := 0 }, { name := "coder", type := .byte, accessFlags := 18, slot := 1, constantValue := 0 }, { name := "hash", type := .int, accessFlags := 2, slot := 2, constantValue := 0 }, { name := "hashIsZero", type := .boolean, accessFlags := 2, slot := 3, constantValue := 0 }, { name := "serialVersionUID", type := .long, accessFlags := 26, slot := 0, constantValue := 0 }, { name := "COMPACT_STRINGS", type := .boolean, accessFlags := 24, slot := 1, constantValue := 0 }, { name := "serialPersistentFields", type := (.array (.object "java/io/ObjectStreamField")), accessFlags := 26, slot := 2, constantValue := 0 }, { name := "REPL", type := .char, accessFlags := 26, slot := 3, constantValue := 0 }, { name := "CASE_INSENSITIVE_ORDER", type := (.object "java/util/Comparator"), accessFlags := 25, slot := 4, constantValue := 0 }, { name := "LATIN1", type := .byte, accessFlags := 24, slot := 5, constantValue := 0 }, { name := "UTF16", type := .byte, accessFlags := 24, slot := 6, constantValue := 0 }]
  methods := #[k10m0]
  instanceTypes := #[(.array .byte), .byte, .int, .boolean]
  staticTypes := #[.long, .boolean, (.array (.object "java/io/ObjectStreamField")), .char, (.object "java/util/Comparator"), .byte, .byte]
  resolved := Array.replicate 1451 none
  statics := none }

def pool11 : Array CpInfo := pool [(1, u "java/lang/Cloneable"), (0, .class_ 1), (0, u "java/lang/Object"), (0, .class_ 3)] 3

/-- java/lang/Cloneable -/
def k11 : Class := { plain "java/lang/Cloneable" (some 0) with
  accessFlags := 1537
  interfaces := #[]
  cf := some (fileOf pool11 2 #[] #[] 1537 4 #[] #[])
  fields := #[]
  methods := #[]
  instanceTypes := #[]
  staticTypes := #[]
  resolved := Array.replicate 8 none
  statics := none }

/-- the primitive byte -/
def k12 : Class := { plain "byte" none with kind := .primitive 'B', accessFlags := 0x411 }
/-- [B -/
def k13 : Class := { plain "[B" (some 0) with kind := .array 12 .byte, interfaces := #[11, 5], accessFlags := 1041 }

/-- the primitive int -/
def k14 : Class := { plain "int" none with kind := .primitive 'I', accessFlags := 0x411 }
/-- [I -/
def k15 : Class := { plain "[I" (some 0) with kind := .array 14 .int, interfaces := #[11, 5], accessFlags := 1041 }

def heap : Heap := #[]
def classes : Array Class := #[k0, k1, k2, k3, k4, k5, k6, k7, k8, k9, k10, k11, k12, k13, k14, k15]
def interned : List (Array UInt16 × Addr) := []
def slotsUsed : Nat := 0
def theMethod : MethodId := ⟨1, 1⟩
def args0 : Array Value := #[.int 5, .int 6, .int 7]
def aboutOver (below : List Frame) : State where
  vm := { classes := classes, interned := interned.toArray }
  heap := heap
  slotsUsed := slotsUsed
  threads := #[{ frames := .invoking theMethod args0 :: below }]
def below0 : List Frame := [.native { method := ⟨0, 0⟩, args := #[] }]
def about1 : State := aboutOver below0
def p0 : Program := .bare "" "" ""
def e0 : Env := launch0.env 0 0 0
theorem w_frames : about1.frames = Frame.invoking theMethod args0 :: below0 := rfl
set_option maxRecDepth 65536 in
theorem w_args : argsFit about1.vm theMethod args0 = true := by decide +kernel
set_option maxRecDepth 65536 in
theorem w_heap : heapFits about1 = true := by decide +kernel
set_option maxRecDepth 65536 in
theorem w_runnable : about1.curStatus? = some .runnable := by decide +kernel
set_option maxRecDepth 65536 in
theorem w_alone : about1.alone = true := by decide +kernel
set_option maxRecDepth 65536 in
theorem w_named : about1.methodNamed? x = some theMethod := by decide +kernel
set_option maxRecDepth 65536 in
theorem w_hears : about1.hears theMethod below0 = true := by decide +kernel
set_option maxRecDepth 65536 in
theorem w_ripe : about1.ripe theMethod args0 below0 = true := by decide +kernel
theorem w_running : about1.status = .running := rfl
set_option maxRecDepth 65536 in
theorem w_room : about1.hasRoom e0.platform room_1 = true :=
  launch0.hasRoom_least _ room_1 (by decide +kernel) (by decide +kernel) (by decide +kernel) (by decide +kernel) (by decide +kernel) (by decide +kernel)
theorem allAtoms_all (ts : List Jvm.Cond) (a : Array Jvm.Value) (st : Jvm.State) : (allAtoms ts).before a st = ts.all (fun c => c.before a st) := by
  induction ts with
  | nil => rfl
  | cons c t ih =>
    show (Jvm.Cond.and c (allAtoms t)).before a st = _
    rw [Jvm.Cond.before_and, ih, List.all_cons]
def words1 : List Jvm.Cond := Jvm.Cond.code x code maxLocals ret :: tables_1
/-- a 'code' word, met by the world's own term for the bytes: nothing is compared byte by byte -/
theorem code_word {y : MethodName} {bytes : ByteArray} {mx : Nat} {rt : Option FieldType} {a : Array Value} {s : State} {m : MethodId} {meth : Method} {c : Code} (h1 : s.methodNamed? y = some m) (h2 : s.vm.method? m = some meth) (h3 : meth.code = some c) (h4 : c.code = bytes)
    (h5 : (c.maxLocals == mx && c.exceptionTable.isEmpty && decide (c.maxStack ≤ mostOperands) && decide (meth.sig.returnType = rt) && !meth.locks && decide (parseMethodDescriptor y.desc = some meth.sig)) = true) : (Jvm.Cond.code y bytes mx rt).before a s = true := by
  simp only [Bool.and_eq_true, beq_iff_eq, Bool.not_eq_true', decide_eq_true_eq] at h5
  obtain ⟨⟨⟨⟨⟨g1, g2⟩, g3⟩, g4⟩, g5⟩, g6⟩ := h5
  simp [Cond.before, Cond.holds, Cond.value, h1, h2, h3, h4, g1, g2, g3, g4, g5, g6]
def isCode : Jvm.Cond → Bool
  | .code _ _ _ _ => true
  | _ => false
theorem all_split {L : List Jvm.Cond} {P : Jvm.Cond → Bool} (h1 : L.all (fun c => isCode c || P c) = true) (h2 : ∀ c ∈ L.filter isCode, P c = true) : L.all P = true := by
  refine List.all_eq_true.mpr fun c hc => ?_
  have h := List.all_eq_true.mp h1 c hc
  rcases Bool.eq_false_or_eq_true (isCode c) with hi | hi
  · exact h2 c (List.mem_filter.mpr ⟨hc, hi⟩)
  · simpa [hi] using h
set_option maxRecDepth 65536 in
theorem w_c0 : (Jvm.Cond.code x code maxLocals ret).before args0 about1 = true := code_word (m := ⟨1, 1⟩) (meth := k1m1) (c := k1c1) (by decide +kernel) rfl rfl rfl (by decide +kernel)
set_option maxRecDepth 65536 in
theorem w_c1 : (Jvm.Cond.code ({ cls := "java/lang/Math", name := "max", desc := "(II)I" } : Jvm.MethodName) jdk_29_method_65_code (2 : Nat) (Option.some Jvm.ClassFile.FieldType.int)).before args0 about1 = true := code_word (m := ⟨2, 1⟩) (meth := k2m1) (c := k2c1) (by decide +kernel) rfl rfl rfl (by decide +kernel)
set_option maxRecDepth 65536 in
theorem w_c2 : (Jvm.Cond.code ({ cls := "com/example/swarmfront/swarmfront/swarm/Budget", name := "<init>", desc := "(III)V" } : Jvm.MethodName) prog_17_method_1_code (4 : Nat) (Option.none : Option Jvm.ClassFile.FieldType)).before args0 about1 = true := code_word (m := ⟨4, 0⟩) (meth := k4m0) (c := k4c0) (by decide +kernel) rfl rfl rfl (by decide +kernel)
set_option maxRecDepth 65536 in
theorem w_c3 : (Jvm.Cond.code ({ cls := "java/lang/Record", name := "<init>", desc := "()V" } : Jvm.MethodName) jdk_30_method_1_code (1 : Nat) (Option.none : Option Jvm.ClassFile.FieldType)).before args0 about1 = true := code_word (m := ⟨3, 0⟩) (meth := k3m0) (c := k3c0) (by decide +kernel) rfl rfl rfl (by decide +kernel)
set_option maxRecDepth 65536 in
theorem w_c4 : (Jvm.Cond.code ({ cls := "java/lang/Object", name := "<init>", desc := "()V" } : Jvm.MethodName) object_method_1_code (1 : Nat) (Option.none : Option Jvm.ClassFile.FieldType)).before args0 about1 = true := code_word (m := ⟨0, 0⟩) (meth := k0m0) (c := k0c0) (by decide +kernel) rfl rfl rfl (by decide +kernel)
set_option maxRecDepth 65536 in
theorem w_c5 : (Jvm.Cond.code ({ cls := "com/example/swarmfront/swarmfront/swarm/Budget", name := "requireAtLeastOne", desc := "(Ljava/lang/String;I)V" } : Jvm.MethodName) prog_17_method_3_code (2 : Nat) (Option.none : Option Jvm.ClassFile.FieldType)).before args0 about1 = true := code_word (m := ⟨4, 2⟩) (meth := k4m2) (c := k4c2) (by decide +kernel) rfl rfl rfl (by decide +kernel)
set_option maxRecDepth 65536 in
theorem w_c6 : (Jvm.Cond.code ({ cls := "com/example/swarmfront/swarmfront/swarm/Budget", name := "evaluations", desc := "()J" } : Jvm.MethodName) prog_17_method_2_code (1 : Nat) (Option.some Jvm.ClassFile.FieldType.long)).before args0 about1 = true := code_word (m := ⟨4, 1⟩) (meth := k4m1) (c := k4c1) (by decide +kernel) rfl rfl rfl (by decide +kernel)
def codes1 : List Jvm.Cond := [Jvm.Cond.code x code maxLocals ret, Jvm.Cond.code ({ cls := "java/lang/Math", name := "max", desc := "(II)I" } : Jvm.MethodName) jdk_29_method_65_code (2 : Nat) (Option.some Jvm.ClassFile.FieldType.int), Jvm.Cond.code ({ cls := "com/example/swarmfront/swarmfront/swarm/Budget", name := "<init>", desc := "(III)V" } : Jvm.MethodName) prog_17_method_1_code (4 : Nat) (Option.none : Option Jvm.ClassFile.FieldType), Jvm.Cond.code ({ cls := "java/lang/Record", name := "<init>", desc := "()V" } : Jvm.MethodName) jdk_30_method_1_code (1 : Nat) (Option.none : Option Jvm.ClassFile.FieldType), Jvm.Cond.code ({ cls := "java/lang/Object", name := "<init>", desc := "()V" } : Jvm.MethodName) object_method_1_code (1 : Nat) (Option.none : Option Jvm.ClassFile.FieldType), Jvm.Cond.code ({ cls := "com/example/swarmfront/swarmfront/swarm/Budget", name := "requireAtLeastOne", desc := "(Ljava/lang/String;I)V" } : Jvm.MethodName) prog_17_method_3_code (2 : Nat) (Option.none : Option Jvm.ClassFile.FieldType), Jvm.Cond.code ({ cls := "com/example/swarmfront/swarmfront/swarm/Budget", name := "evaluations", desc := "()J" } : Jvm.MethodName) prog_17_method_2_code (1 : Nat) (Option.some Jvm.ClassFile.FieldType.long)]
set_option maxRecDepth 65536 in
theorem codes_eq : words1.filter isCode = codes1 := rfl
theorem w_codes : ∀ c ∈ words1.filter isCode, c.before args0 about1 = true := by
  rw [codes_eq]
  intro c hc
  simp only [codes1, List.mem_cons, List.not_mem_nil, or_false] at hc
  rcases hc with rfl | rfl | rfl | rfl | rfl | rfl | rfl
  · exact w_c0
  · exact w_c1
  · exact w_c2
  · exact w_c3
  · exact w_c4
  · exact w_c5
  · exact w_c6
set_option maxRecDepth 65536 in
theorem w_t1 : (words1.take 24).all (fun c => isCode c || c.before args0 about1) = true := by decide +kernel
set_option maxRecDepth 65536 in
theorem w_t2 : (words1.drop 24).all (fun c => isCode c || c.before args0 about1) = true := by decide +kernel
theorem w_tables : (allAtoms (Jvm.Cond.code x code maxLocals ret :: tables_1)).before args0 about1 = true := by
  rw [allAtoms_all]
  show words1.all (fun c => c.before args0 about1) = true
  refine all_split ?_ w_codes
  rw [← List.take_append_drop 24 words1, List.all_append, w_t1, w_t2]
  rfl
set_option maxRecDepth 65536 in
theorem w_case : (Jvm.Cond.and given_1 narrow_1).before args0 about1 = true := by decide +kernel
theorem w_applies : (headSpec (Jvm.Cond.code x code maxLocals ret :: tables_1) room_1).applies x e0.platform about1 = true :=
  (Spec.applies_iff w_frames).mpr ⟨w_running, w_runnable, w_alone, w_named, w_hears, w_ripe, w_room, w_tables⟩
theorem atStart : AtStart classFile x code maxLocals ret World_1 tables_1 room_1 Calls_1 rest_1 Pre_1 launch0 p0 e0 about1 theMethod args0 below0 :=
  ⟨lists_1, trivial, launch0.admits_env _ _ _, launch0.least_env, fairChoices_fair.cas, fairChoices_fair.clock, w_frames, w_args, w_heap, w_applies, trivial, trivial, w_case⟩
end start1
theorem witness_1 : WitnessClaimed_1 := ⟨start1.p0, start1.e0, start1.about1, start1.theMethod, start1.args0, start1.below0, start1.atStart⟩
end Jvm.Pilot.@@N@@
