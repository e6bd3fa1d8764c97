import JvmDerived
import JvmDerived.Pilot.@@N@@Statement
import JvmDerived.Pilot.@@N@@Code
set_option linter.unusedVariables false
set_option linter.unusedSimpArgs false
namespace Jvm.RoadKit
open Sem ClassFile Op Lib Jvm.Stand Jvm.Free Jvm.LawKit
section New
variable {p : Program} {l : Launch} {e : Env} {R : Room} {s : State} {m : MethodId} {args : Array Value} {below : List Frame} {meth : Method} {c : Code} {T : State} {locs : List Loc} {cells slots : Nat}
theorem retI (X : Stand p l e R s m args below meth c T locs cells slots) (hx : p.tables.exec = Jvm.exec) {pc : Nat} {Ls : Array Slot} {z : Int32} {rest : List Value} (hret : meth.sig.returnType = some .int) (hd : decode c.code pc = .ok (.ireturn, 1)) {fs : List Frame}
    (hl : ∀ (f : JFrame) (acts : List Action), f.method = m → f.locked = none → f.entered = [] → (doReturn e (T.setTop f) acts (some (.int z))).1 = T.setFrames fs) : Steps p.tables e below (T.setTop (mkF m pc Ls (.int z :: rest))) (T.setFrames fs) := by
  have hm' : T.vm.method? m = some meth := X.method'
  have hn : narrow .int (.int z) = .int z := rfl
  show Steps p.tables e below (T.setTop { method := m, pc := pc, locals := Ls, stack := _ :: rest, locked := none }) _
  jvm_step X.here [X.here.top, hx, hd, hm', hret, hn]
  first | (intro acts; rw [hl _ acts rfl rfl rfl]) | rw [hl _ _ rfl rfl rfl]
  exact Steps.refl _
end New
theorem own_sta_keep {Z : State} {h h' : Heap} {C n d : String} {v : Value} {ws : List Addr} (F : Sta Z h C n d v) (K : Keep h h' ws) (q : ∀ x ∈ ws, ∀ c : Cell, h[x]? = some c → c.vm.isStatics = false) : Sta Z h' C n d v := by
  obtain ⟨cf, i, k, f, st, cell, h1, h2, h3, h4, h5, h6, h7⟩ := F
  exact ⟨cf, i, k, f, st, cell, h1, h2, h3, h4, K.2.1 st cell h5 (fun hm => by rw [q st hm cell h5] at h6; cases h6), h6, h7⟩
theorem own_plain_Exa {Z : State} {h : Heap} {a : Addr} {C : String} (F : Exa Z h a C) : ∀ c : Cell, h[a]? = some c → c.vm.isStatics = false := fun c hc => by
  obtain ⟨cell, _, h1, -, -, h4, -⟩ := F
  cases h1.symm.trans hc; exact h4
theorem own_plain_Arv {Z : State} {h : Heap} {a : Addr} {k : ClassId} {ty : FieldType} {n : Int32} {vs : List Value} {d : Value} (F : Arv Z h a k ty n vs d) : ∀ c : Cell, h[a]? = some c → c.vm.isStatics = false := fun c hc => by
  obtain ⟨cell, A, -⟩ := F
  cases A.1.symm.trans hc; exact A.plain
end Jvm.RoadKit
namespace Jvm.Pilot.@@N@@
open Jvm Jvm.ClassFile Sem Op Lib Jvm.Free Jvm.Stand Jvm.LawKit Jvm.RoadKit Bundle Jvm.Pilot.@@N@@.Jvm.D
def bI (P : Prop) [Decidable P] : Int32 := if P then 1 else 0
theorem bI_eq {P Q : Prop} [Decidable P] [Decidable Q] : bI P = bI Q ↔ (P ↔ Q) := by unfold bI; by_cases h : P <;> by_cases g : Q <;> simp [h, g]
theorem bI_eq1 {P : Prop} [Decidable P] : bI P = 1 ↔ P := by unfold bI; by_cases h : P <;> simp [h]
theorem bI_1eq {P : Prop} [Decidable P] : 1 = bI P ↔ P := by unfold bI; by_cases h : P <;> simp [h]
theorem bI_eq0 {P : Prop} [Decidable P] : bI P = 0 ↔ (P ↔ False) := by unfold bI; by_cases h : P <;> simp [h]
theorem bI_0eq {P : Prop} [Decidable P] : 0 = bI P ↔ (False ↔ P) := by unfold bI; by_cases h : P <;> simp [h]
theorem bI_t {P : Prop} [Decidable P] (h : P) : bI P = 1 := if_pos h
theorem bI_f {P : Prop} [Decidable P] (h : ¬ P) : bI P = 0 := if_neg h
theorem bI_iff {P Q : Prop} [Decidable P] [Decidable Q] (h : P ↔ Q) : bI P = bI Q := bI_eq.mpr h
theorem imp_iff_h {P Q : Prop} (h : P) : (P → Q) ↔ Q := ⟨fun f => f h, fun q _ => q⟩
theorem sel_t {P A B : Prop} (h : P) : ((P ∧ A) ∨ (¬ P ∧ B)) ↔ A := ⟨fun q => q.elim (fun z => z.2) (fun z => absurd h z.1), fun a => Or.inl ⟨h, a⟩⟩
theorem sel_f {P A B : Prop} (h : ¬ P) : ((P ∧ A) ∨ (¬ P ∧ B)) ↔ B := ⟨fun q => q.elim (fun z => absurd z.1 h) (fun z => z.2), fun b => Or.inr ⟨h, b⟩⟩
theorem bB_eq_t {P : Prop} [Decidable P] (h : ¬ P) : ifCond.holds .eq (bI P) = true := by rw [bI_f h]; rfl
theorem bB_eq_f {P : Prop} [Decidable P] (h : P) : ifCond.holds .eq (bI P) = false := by rw [bI_t h]; rfl
theorem bB_ne_t {P : Prop} [Decidable P] (h : P) : ifCond.holds .ne (bI P) = true := by rw [bI_t h]; rfl
theorem bB_ne_f {P : Prop} [Decidable P] (h : ¬ P) : ifCond.holds .ne (bI P) = false := by rw [bI_f h]; rfl
theorem bI_nar {P : Prop} [Decidable P] : nar .boolean (bI P) = bI P := by by_cases h : P <;> simp only [bI, h, if_true, if_false] <;> rfl
theorem bI_ret {P : Prop} [Decidable P] : (some (.int (nar .boolean (bI P))) : Option Value) = some (.int (bI P)) := by rw [bI_nar]
theorem bI_one {P : Prop} [Decidable P] (h : P) : (some (.int (nar .boolean (bI P))) : Option Value) = some (.int 1) := by rw [bI_nar, bI_t h]
theorem own_ite_ref {P : Prop} [Decidable P] {x y : Value} (h : x.isRef = true) (g : y.isRef = true) : (if P then x else y).isRef = true := by by_cases q : P <;> simp [q, h, g]
theorem own_fits_ref {t : FieldType} {x : Value} (ht : t.isReference = true) (h : x.isRef = true) : fits t x = true := by cases t <;> first | (cases ht; done) | (cases x <;> simp_all [fits, Value.isRef])
theorem own_eqI {args : Array Value} {s : State} {t : Term} {k : Int32} (h : (Cond.eq t (.int k)).value args s none s [] = some true) : t.eval args s none [] s = some (.int k) := by
  simp only [Cond.value, Term.eval] at h
  cases ht : t.eval args s none [] s with
  | none => simp [ht] at h
  | some v => cases v <;> simp [ht] at h ⊢; exact h
theorem own_eqR {args : Array Value} {s : State} {t u : Term} {v : Value} (hu : u.eval args s none [] s = some v) (hv : v.isRef = true) (h : (Cond.eq t u).value args s none s [] = some true) : t.eval args s none [] s = some v := by
  cases ht : t.eval args s none [] s with
  | none => simp [Cond.value, ht, hu] at h
  | some x =>
    rcases ref_cases hv with rfl | ⟨a, rfl⟩ <;> cases x <;> simp [Cond.value, ht, hu] at h ⊢ <;> exact h
theorem own_len {args : Array Value} {s : State} {t : Term} {a : Addr} {c : Cell} {ty : FieldType} {k : Int32} (ev : t.eval args s none [] s = some (.ref a)) (A : Arr s s.heap a c ty) (h : (Term.length t).eval args s none [] s = some (.int k)) : c.slots.size < 2 ^ 31 ∧ c.slots.size.toInt32 = k := by
  have ha := A.fin (Vm.Alike.refl _)
  by_cases q : c.slots.size < 2 ^ 31
  · rw [len_f ev ha q] at h; exact ⟨q, by injection h with h; injection h⟩
  · simp [Term.eval, ev, ha, q] at h


def mn64 (a b : Int64) : Int64 := if b < a then b else a
def mx64 (a b : Int64) : Int64 := if a < b then b else a
theorem mn64_le (a b : Int64) : (mn64 a b).toInt ≤ (mx64 a b).toInt := by
  unfold mn64 mx64; by_cases h : b < a <;> by_cases g : a < b <;> simp only [h, g, if_true, if_false] <;> rw [Int64.lt_iff_toInt_lt] at h g <;> omega
theorem own_at (x : Int64) : ¬ (x < x) := by simp only [Int64.lt_iff_toInt_lt]; omega
theorem own_before (x : Int64) : x = (-9223372036854775808 : Int64) ∨ ¬ (¬ ((x - (1 : Int64)) < x)) := by
  by_cases h : x = (-9223372036854775808 : Int64)
  · exact Or.inl h
  · refine Or.inr (fun q => q ?_)
    have r := rng64 x
    have n : x.toInt ≠ -9223372036854775808 := fun e => h (Int64.toInt_inj.mp (e.trans rfl))
    have o1 : (1 : Int64).toInt = 1 := rfl
    rw [Int64.lt_iff_toInt_lt, XT.sub64 ⟨by rw [o1]; omega, by rw [o1]; omega⟩, o1]; omega
theorem own_mono (x a b : Int64) : (¬ (mn64 a b < x)) → ¬ (mx64 a b < x) := by
  have h := mn64_le a b; simp only [Int64.lt_iff_toInt_lt]; omega

theorem d5_0 : decode jdk_29_method_70_code 0 = .ok (.lload_n 0, 1) := by decide +kernel
theorem d5_1 : decode jdk_29_method_70_code 1 = .ok (.lload_n 2, 1) := by decide +kernel
theorem d5_2 : decode jdk_29_method_70_code 2 = .ok (.lcmp, 1) := by decide +kernel
theorem d5_3 : decode jdk_29_method_70_code 3 = .ok (.ifCond .gt 7, 3) := by decide +kernel
theorem d5_6 : decode jdk_29_method_70_code 6 = .ok (.lload_n 0, 1) := by decide +kernel
theorem d5_7 : decode jdk_29_method_70_code 7 = .ok (.goto 4, 3) := by decide +kernel
theorem d5_10 : decode jdk_29_method_70_code 10 = .ok (.lload_n 2, 1) := by decide +kernel
theorem d5_11 : decode jdk_29_method_70_code 11 = .ok (.lreturn, 1) := by decide +kernel
theorem ef_rmMin (m : MethodId) (x0 : Int64) (x1 : Int64) : entryFrame m #[(.long x0), (.long x1)] 4 = mkF m 0 #[.val (.long x0), .second, .val (.long x1), .second] [] := by first | (simp [entryFrame, mkF, argsToLocals, Value.category]; done) | rfl
def QMin (Z : State) (q1 : Int64) (q2 : Int64) (h0 : Heap) (n0 : Nat) (v : Option Value) (h : Heap) (L : List Loc) : Prop := v = some (.long (mn64 q1 q2)) ∧ Fr n0 L ∧ h = h0
set_option maxRecDepth 65536 in
set_option maxHeartbeats 40000000 in
theorem rmMin (l : Launch) (Z : State) (a0 : Array Value) (hw : ∀ d ∈ tables_1, d.before a0 Z = true) (ws : List Jvm.Cond) (q1 : Int64) (q2 : Int64) (h0 : Heap) (n0 : Nat) (Z0 : n0 ≤ h0.size) :
    MetFree l (⟨"java/lang/Math", "min", "(JJ)J"⟩ : MethodName) (head1 (Jvm.Cond.code (⟨"java/lang/Math", "min", "(JJ)J"⟩ : MethodName) jdk_29_method_70_code 4 (some .long) :: ws) ({ frames := 0, cells := 0, slots := 0, locals := 0 } : Room)) (fun ar UU => ar = #[(.long q1), (.long q2)] ∧ Z.Warmed39 UU.vm ∧ UU.heap = h0) (fun _ _ _ _ _ => True) (fun _ UU oo UU' => ∃ vv LL, oo = .returned vv ∧ QMin Z q1 q2 h0 n0 vv UU'.heap LL ∧ FrameEnd UU oo UU' LL ({ frames := 0, cells := 0, slots := 0, locals := 0 } : Room).cells ({ frames := 0, cells := 0, slots := 0, locals := 0 } : Room).slots) := by
  refine MetFree.of_bodySF (Jvm.Free.JP.mathPlain rfl (by decide +kernel)) hisR ?_
  intro p e s m args below meth c s₁ Bd hml0 hP hK
  obtain ⟨rfl, hZ, hh⟩ := hP
  have hx := Bd.exec
  have hby := Bd.bytes
  have hml : c.maxLocals = 4 := hml0
  have hown : s.vm.findClass "java/lang/Math" = some m.cls := findClass_of_methodNamed Bd.named
  have hnm := (name_of_methodNamed Bd.named Bd.method).1
  have X0 : Stand p l e ({ frames := 0, cells := 0, slots := 0, locals := 0 } : Room) s m #[(.long q1), (.long q2)] below meth c s₁ [] 0 0 := Stand.of_body Bd
  have e0 : s₁.heap = h0 := by rw [← hh, Bd.state]; rfl
  have N0 := Fr.nil n0
  have KC0 : Keep h0 h0 [] := Keep.refl h0 []
  have pre0 : ∀ tgt, Steps p.tables e below (s₁.setTop (mkF m 0 #[.val (.long q1), .second, .val (.long q2), .second] [])) tgt → Steps p.tables e below (s₁.setTop (entryFrame m #[(.long q1), (.long q2)] 4)) tgt := fun tgt kk => castTop (ef_rmMin m (q1) (q2)) kk
  have pre1 : ∀ tgt, Steps p.tables e below (s₁.setTop (mkF m 3 #[.val (.long q1), .second, .val (.long q2), .second] [(.int (lcmpW q1 q2))])) tgt → Steps p.tables e below (s₁.setTop (entryFrame m #[(.long q1), (.long q2)] 4)) tgt := by
    intro tgt kk
    refine pre0 tgt ?_
    refine XS.lloadN X0.here hx rfl (hb hby d5_0) rfl ?_
    show Steps p.tables e below (s₁.setTop (mkF m 1 #[.val (.long q1), .second, .val (.long q2), .second] [(.long q1)])) _
    refine XS.lloadN X0.here hx rfl (hb hby d5_1) rfl ?_
    show Steps p.tables e below (s₁.setTop (mkF m 2 #[.val (.long q1), .second, .val (.long q2), .second] [(.long q2), (.long q1)])) _
    refine XS.lcmp X0.here hx rfl (hb hby d5_2) rfl ?_
    show Steps p.tables e below (s₁.setTop (mkF m 3 #[.val (.long q1), .second, .val (.long q2), .second] [(.int (lcmpW q1 q2))])) _
    exact kk
  by_cases hc3_2 : q2 < q1
  · skip
    obtain ⟨fs, hr, hrun, hended, hW, hsame⟩ := X0.leave (v := some (.long q2)) (fun h => by rw [Bd.returns] at h; cases h)
    refine ⟨_, _, pre1 _ ?_, hrun, hended, _, _, rfl, ?_, ⟨_, rfl⟩, hW, hsame.mono (by decide) (by decide)⟩
    · skip
      refine XS.ifYes X0.here hx rfl (pc0 := 3) (pc' := 10) rfl (hb hby d5_3) rfl (XT.ll_gt_t hc3_2) (by decide) (by decide) ?_
      show Steps p.tables e below (s₁.setTop (mkF m 10 #[.val (.long q1), .second, .val (.long q2), .second] [])) _
      refine XS.lloadN X0.here hx rfl (hb hby d5_10) rfl ?_
      show Steps p.tables e below (s₁.setTop (mkF m 11 #[.val (.long q1), .second, .val (.long q2), .second] [(.long q2)])) _
      exact retOut X0 hx Bd.returns rfl (Or.inr (Or.inl ⟨rfl, rfl, _, rfl⟩)) (hb hby d5_11) hr
    · show QMin Z q1 q2 h0 n0 _ s₁.heap _
      rw [e0]
      exact ⟨by simp [mn64, hc3_2], N0, rfl⟩
  · skip
    obtain ⟨fs, hr, hrun, hended, hW, hsame⟩ := X0.leave (v := some (.long q1)) (fun h => by rw [Bd.returns] at h; cases h)
    refine ⟨_, _, pre1 _ ?_, hrun, hended, _, _, rfl, ?_, ⟨_, rfl⟩, hW, hsame.mono (by decide) (by decide)⟩
    · skip
      refine XS.ifNo X0.here hx rfl (hb hby d5_3) rfl (XT.ll_gt_f hc3_2) ?_
      show Steps p.tables e below (s₁.setTop (mkF m 6 #[.val (.long q1), .second, .val (.long q2), .second] [])) _
      refine XS.lloadN X0.here hx rfl (hb hby d5_6) rfl ?_
      show Steps p.tables e below (s₁.setTop (mkF m 7 #[.val (.long q1), .second, .val (.long q2), .second] [(.long q1)])) _
      refine XS.goto X0.here hx rfl (pc0 := 7) (pc' := 11) rfl (hb hby d5_7) (by decide) (by decide) ?_
      show Steps p.tables e below (s₁.setTop (mkF m 11 #[.val (.long q1), .second, .val (.long q2), .second] [(.long q1)])) _
      exact retOut X0 hx Bd.returns rfl (Or.inr (Or.inl ⟨rfl, rfl, _, rfl⟩)) (hb hby d5_11) hr
    · show QMin Z q1 q2 h0 n0 _ s₁.heap _
      rw [e0]
      exact ⟨by simp [mn64, hc3_2], N0, rfl⟩
theorem d6_0 : decode jdk_29_method_66_code 0 = .ok (.lload_n 0, 1) := by decide +kernel
theorem d6_1 : decode jdk_29_method_66_code 1 = .ok (.lload_n 2, 1) := by decide +kernel
theorem d6_2 : decode jdk_29_method_66_code 2 = .ok (.lcmp, 1) := by decide +kernel
theorem d6_3 : decode jdk_29_method_66_code 3 = .ok (.ifCond .lt 7, 3) := by decide +kernel
theorem d6_6 : decode jdk_29_method_66_code 6 = .ok (.lload_n 0, 1) := by decide +kernel
theorem d6_7 : decode jdk_29_method_66_code 7 = .ok (.goto 4, 3) := by decide +kernel
theorem d6_10 : decode jdk_29_method_66_code 10 = .ok (.lload_n 2, 1) := by decide +kernel
theorem d6_11 : decode jdk_29_method_66_code 11 = .ok (.lreturn, 1) := by decide +kernel
theorem ef_rmMax (m : MethodId) (x0 : Int64) (x1 : Int64) : entryFrame m #[(.long x0), (.long x1)] 4 = mkF m 0 #[.val (.long x0), .second, .val (.long x1), .second] [] := by first | (simp [entryFrame, mkF, argsToLocals, Value.category]; done) | rfl
def QMax (Z : State) (q1 : Int64) (q2 : Int64) (h0 : Heap) (n0 : Nat) (v : Option Value) (h : Heap) (L : List Loc) : Prop := v = some (.long (mx64 q1 q2)) ∧ Fr n0 L ∧ h = h0
set_option maxRecDepth 65536 in
set_option maxHeartbeats 40000000 in
theorem rmMax (l : Launch) (Z : State) (a0 : Array Value) (hw : ∀ d ∈ tables_1, d.before a0 Z = true) (ws : List Jvm.Cond) (q1 : Int64) (q2 : Int64) (h0 : Heap) (n0 : Nat) (Z0 : n0 ≤ h0.size) :
    MetFree l (⟨"java/lang/Math", "max", "(JJ)J"⟩ : MethodName) (head1 (Jvm.Cond.code (⟨"java/lang/Math", "max", "(JJ)J"⟩ : MethodName) jdk_29_method_66_code 4 (some .long) :: ws) ({ frames := 0, cells := 0, slots := 0, locals := 0 } : Room)) (fun ar UU => ar = #[(.long q1), (.long q2)] ∧ Z.Warmed39 UU.vm ∧ UU.heap = h0) (fun _ _ _ _ _ => True) (fun _ UU oo UU' => ∃ vv LL, oo = .returned vv ∧ QMax Z q1 q2 h0 n0 vv UU'.heap LL ∧ FrameEnd UU oo UU' LL ({ frames := 0, cells := 0, slots := 0, locals := 0 } : Room).cells ({ frames := 0, cells := 0, slots := 0, locals := 0 } : Room).slots) := by
  refine MetFree.of_bodySF (Jvm.Free.JP.mathPlain rfl (by decide +kernel)) hisR ?_
  intro p e s m args below meth c s₁ Bd hml0 hP hK
  obtain ⟨rfl, hZ, hh⟩ := hP
  have hx := Bd.exec
  have hby := Bd.bytes
  have hml : c.maxLocals = 4 := hml0
  have hown : s.vm.findClass "java/lang/Math" = some m.cls := findClass_of_methodNamed Bd.named
  have hnm := (name_of_methodNamed Bd.named Bd.method).1
  have X0 : Stand p l e ({ frames := 0, cells := 0, slots := 0, locals := 0 } : Room) s m #[(.long q1), (.long q2)] below meth c s₁ [] 0 0 := Stand.of_body Bd
  have e0 : s₁.heap = h0 := by rw [← hh, Bd.state]; rfl
  have N0 := Fr.nil n0
  have KC0 : Keep h0 h0 [] := Keep.refl h0 []
  have pre0 : ∀ tgt, Steps p.tables e below (s₁.setTop (mkF m 0 #[.val (.long q1), .second, .val (.long q2), .second] [])) tgt → Steps p.tables e below (s₁.setTop (entryFrame m #[(.long q1), (.long q2)] 4)) tgt := fun tgt kk => castTop (ef_rmMax m (q1) (q2)) kk
  have pre1 : ∀ tgt, Steps p.tables e below (s₁.setTop (mkF m 3 #[.val (.long q1), .second, .val (.long q2), .second] [(.int (lcmpW q1 q2))])) tgt → Steps p.tables e below (s₁.setTop (entryFrame m #[(.long q1), (.long q2)] 4)) tgt := by
    intro tgt kk
    refine pre0 tgt ?_
    refine XS.lloadN X0.here hx rfl (hb hby d6_0) rfl ?_
    show Steps p.tables e below (s₁.setTop (mkF m 1 #[.val (.long q1), .second, .val (.long q2), .second] [(.long q1)])) _
    refine XS.lloadN X0.here hx rfl (hb hby d6_1) rfl ?_
    show Steps p.tables e below (s₁.setTop (mkF m 2 #[.val (.long q1), .second, .val (.long q2), .second] [(.long q2), (.long q1)])) _
    refine XS.lcmp X0.here hx rfl (hb hby d6_2) rfl ?_
    show Steps p.tables e below (s₁.setTop (mkF m 3 #[.val (.long q1), .second, .val (.long q2), .second] [(.int (lcmpW q1 q2))])) _
    exact kk
  by_cases hc3_2 : q1 < q2
  · skip
    obtain ⟨fs, hr, hrun, hended, hW, hsame⟩ := X0.leave (v := some (.long q2)) (fun h => by rw [Bd.returns] at h; cases h)
    refine ⟨_, _, pre1 _ ?_, hrun, hended, _, _, rfl, ?_, ⟨_, rfl⟩, hW, hsame.mono (by decide) (by decide)⟩
    · skip
      refine XS.ifYes X0.here hx rfl (pc0 := 3) (pc' := 10) rfl (hb hby d6_3) rfl (XT.ll_lt_t hc3_2) (by decide) (by decide) ?_
      show Steps p.tables e below (s₁.setTop (mkF m 10 #[.val (.long q1), .second, .val (.long q2), .second] [])) _
      refine XS.lloadN X0.here hx rfl (hb hby d6_10) rfl ?_
      show Steps p.tables e below (s₁.setTop (mkF m 11 #[.val (.long q1), .second, .val (.long q2), .second] [(.long q2)])) _
      exact retOut X0 hx Bd.returns rfl (Or.inr (Or.inl ⟨rfl, rfl, _, rfl⟩)) (hb hby d6_11) hr
    · show QMax Z q1 q2 h0 n0 _ s₁.heap _
      rw [e0]
      exact ⟨by simp [mx64, hc3_2], N0, rfl⟩
  · skip
    obtain ⟨fs, hr, hrun, hended, hW, hsame⟩ := X0.leave (v := some (.long q1)) (fun h => by rw [Bd.returns] at h; cases h)
    refine ⟨_, _, pre1 _ ?_, hrun, hended, _, _, rfl, ?_, ⟨_, rfl⟩, hW, hsame.mono (by decide) (by decide)⟩
    · skip
      refine XS.ifNo X0.here hx rfl (hb hby d6_3) rfl (XT.ll_lt_f hc3_2) ?_
      show Steps p.tables e below (s₁.setTop (mkF m 6 #[.val (.long q1), .second, .val (.long q2), .second] [])) _
      refine XS.lloadN X0.here hx rfl (hb hby d6_6) rfl ?_
      show Steps p.tables e below (s₁.setTop (mkF m 7 #[.val (.long q1), .second, .val (.long q2), .second] [(.long q1)])) _
      refine XS.goto X0.here hx rfl (pc0 := 7) (pc' := 11) rfl (hb hby d6_7) (by decide) (by decide) ?_
      show Steps p.tables e below (s₁.setTop (mkF m 11 #[.val (.long q1), .second, .val (.long q2), .second] [(.long q1)])) _
      exact retOut X0 hx Bd.returns rfl (Or.inr (Or.inl ⟨rfl, rfl, _, rfl⟩)) (hb hby d6_11) hr
    · show QMax Z q1 q2 h0 n0 _ s₁.heap _
      rw [e0]
      exact ⟨by simp [mx64, hc3_2], N0, rfl⟩
theorem d2_0 : decode jdk_30_method_1_code 0 = .ok (.aload_n 0, 1) := by decide +kernel
theorem d2_1 : decode jdk_30_method_1_code 1 = .ok (.invokespecial 1, 3) := by decide +kernel
theorem d2_4 : decode jdk_30_method_1_code 4 = .ok (.return_, 1) := by decide +kernel
theorem pn_2 : plainName "java/lang/Record" = true := by first | (simp [plainName, overriddenIn]; done) | decide +kernel
theorem ef_rmRec (m : MethodId) (x0 : Addr) : entryFrame m #[(.ref x0)] 1 = mkF m 0 #[.val (.ref x0)] [] := by first | (simp [entryFrame, mkF, argsToLocals, Value.category]; done) | rfl
def QRec (Z : State) (a : Addr) (h0 : Heap) (n0 : Nat) (v : Option Value) (h : Heap) (L : List Loc) : Prop := v = none ∧ Fr n0 L ∧ h = h0
set_option maxRecDepth 65536 in
set_option maxHeartbeats 40000000 in
theorem rmRec (l : Launch) (Z : State) (a0 : Array Value) (hw : ∀ d ∈ tables_1, d.before a0 Z = true) (ws : List Jvm.Cond) (a : Addr) (h0 : Heap) (n0 : Nat) (Z0 : n0 ≤ h0.size) :
    MetFree l (⟨"java/lang/Record", "<init>", "()V"⟩ : MethodName) (head1 (Jvm.Cond.code (⟨"java/lang/Record", "<init>", "()V"⟩ : MethodName) jdk_30_method_1_code 1 none :: ws) ({ frames := 1, cells := 0, slots := 0, locals := 12 } : Room)) (fun ar UU => ar = #[(.ref a)] ∧ Z.Warmed39 UU.vm ∧ UU.heap = h0) (fun _ _ _ _ _ => True) (fun _ UU oo UU' => ∃ vv LL, oo = .returned vv ∧ QRec Z a h0 n0 vv UU'.heap LL ∧ FrameEnd UU oo UU' LL ({ frames := 1, cells := 0, slots := 0, locals := 12 } : Room).cells ({ frames := 1, cells := 0, slots := 0, locals := 12 } : Room).slots) := by
  refine MetFree.of_bodySF (plainFor_of_name pn_2) hisR ?_
  intro p e s m args below meth c s₁ Bd hml0 hP hK
  obtain ⟨rfl, hZ, hh⟩ := hP
  have hx := Bd.exec
  have hby := Bd.bytes
  have hml : c.maxLocals = 1 := hml0
  have hown : s.vm.findClass "java/lang/Record" = some m.cls := findClass_of_methodNamed Bd.named
  have hnm := (name_of_methodNamed Bd.named Bd.method).1
  have X0 : Stand p l e ({ frames := 1, cells := 0, slots := 0, locals := 12 } : Room) s m #[(.ref a)] below meth c s₁ [] 0 0 := Stand.of_body Bd
  have e0 : s₁.heap = h0 := by rw [← hh, Bd.state]; rfl
  have N0 := Fr.nil n0
  have KC0 : Keep h0 h0 [] := Keep.refl h0 []
  have pre0 : ∀ tgt, Steps p.tables e below (s₁.setTop (mkF m 0 #[.val (.ref a)] [])) tgt → Steps p.tables e below (s₁.setTop (entryFrame m #[(.ref a)] 1)) tgt := fun tgt kk => castTop (ef_rmRec m (a)) kk
  have pre1 : ∀ tgt, Steps p.tables e below (s₁.setTop (mkF m 1 #[.val (.ref a)] [(.ref a)])) tgt → Steps p.tables e below (s₁.setTop (entryFrame m #[(.ref a)] 1)) tgt := by
    intro tgt kk
    refine pre0 tgt ?_
    refine XS.aloadN X0.here hx rfl (hb hby d2_0) rfl rfl ?_
    show Steps p.tables e below (s₁.setTop (mkF m 1 #[.val (.ref a)] [(.ref a)])) _
    exact kk
  obtain ⟨T2, X2, e2, st2⟩ := initO X0 hx hZ hown (hw _ (List.mem_of_getElem? (i := 12) rfl)) (hw _ (List.mem_of_getElem? (i := 13) rfl)) (hw _ (List.mem_of_getElem? (i := 14) rfl)) e0 (g := (mkF m 1 #[.val (.ref a)] [(.ref a)])) rfl (by rw [hml]; rfl) rfl (hb hby d2_1) (by decide) (W := 0) (by show 2 * 0 + _ ≤ _; exact Nat.le_of_eq rfl) (by decide)
  obtain ⟨fs, hr, hrun, hended, hW, hsame⟩ := X2.leave (v := none) (fun _ => rfl)
  refine ⟨_, _, pre1 _ ?_, hrun, hended, _, _, rfl, ?_, ⟨_, rfl⟩, hW, hsame.mono (by decide) (by decide)⟩
  · skip
    refine st2 _ ?_
    show Steps p.tables e below (T2.setTop (mkF m 4 #[.val (.ref a)] [])) _
    exact X2.returnOut hx Bd.returns (hb hby d2_4) hr
  · show QRec Z a h0 n0 _ T2.heap _
    rw [e2]
    exact ⟨rfl, N0, rfl⟩
theorem d1_0 : decode prog_20_method_1_code 0 = .ok (.aload_n 0, 1) := by decide +kernel
theorem d1_1 : decode prog_20_method_1_code 1 = .ok (.invokespecial 3, 3) := by decide +kernel
theorem d1_4 : decode prog_20_method_1_code 4 = .ok (.aload_n 0, 1) := by decide +kernel
theorem d1_5 : decode prog_20_method_1_code 5 = .ok (.lload_n 1, 1) := by decide +kernel
theorem d1_6 : decode prog_20_method_1_code 6 = .ok (.putfield 9, 3) := by decide +kernel
theorem d1_9 : decode prog_20_method_1_code 9 = .ok (.aload_n 0, 1) := by decide +kernel
theorem d1_10 : decode prog_20_method_1_code 10 = .ok (.aload_n 3, 1) := by decide +kernel
theorem d1_11 : decode prog_20_method_1_code 11 = .ok (.putfield 15, 3) := by decide +kernel
theorem d1_14 : decode prog_20_method_1_code 14 = .ok (.aload_n 0, 1) := by decide +kernel
theorem d1_15 : decode prog_20_method_1_code 15 = .ok (.lload 4, 2) := by decide +kernel
theorem d1_17 : decode prog_20_method_1_code 17 = .ok (.putfield 19, 3) := by decide +kernel
theorem d1_20 : decode prog_20_method_1_code 20 = .ok (.return_, 1) := by decide +kernel
theorem pn_1 : plainName "com/example/message_ledger/messageledger/group/CommittedOffset" = true := by first | (simp [plainName, overriddenIn]; done) | decide +kernel
theorem pd___V : parseMethodDescriptor "()V" = some ⟨[], none⟩ := by decide +kernel
theorem ef_rmInit (m : MethodId) (x0 : Addr) (x1 : Int64) (x2 : Addr) (x3 : Int64) : entryFrame m #[(.ref x0), (.long x1), (.ref x2), (.long x3)] 6 = mkF m 0 #[.val (.ref x0), .val (.long x1), .second, .val (.ref x2), .val (.long x3), .second] [] := by first | (simp [entryFrame, mkF, argsToLocals, Value.category]; done) | rfl
def QInit (Z : State) (a : Addr) (q1 : Int64) (a2 : Addr) (q3 : Int64) (h0 : Heap) (n0 : Nat) (v : Option Value) (h : Heap) (L : List Loc) : Prop := v = none ∧ Fr n0 L ∧ Keep h0 h [a] ∧ Fld Z h a "com/example/message_ledger/messageledger/group/CommittedOffset" "offset" "J" (.long q1) ∧ Fld Z h a "com/example/message_ledger/messageledger/group/CommittedOffset" "metadata" "[B" (.ref a2) ∧ Fld Z h a "com/example/message_ledger/messageledger/group/CommittedOffset" "expiresAt" "J" (.long q3)
set_option maxRecDepth 65536 in
set_option maxHeartbeats 40000000 in
theorem rmInit (l : Launch) (Z : State) (a0 : Array Value) (hw : ∀ d ∈ tables_1, d.before a0 Z = true) (ws : List Jvm.Cond) (a : Addr) (q1 : Int64) (a2 : Addr) (q3 : Int64) (h0 : Heap) (n0 : Nat) (Z0 : n0 ≤ h0.size) (E_a : Exa Z h0 a "com/example/message_ledger/messageledger/group/CommittedOffset") (F_offset : Fld Z h0 a "com/example/message_ledger/messageledger/group/CommittedOffset" "offset" "J" (.long (0 : Int64))) (F_metadata : Fld Z h0 a "com/example/message_ledger/messageledger/group/CommittedOffset" "metadata" "[B" .null) (F_expiresAt : Fld Z h0 a "com/example/message_ledger/messageledger/group/CommittedOffset" "expiresAt" "J" (.long (0 : Int64))) (g_a : n0 ≤ a) :
    MetFree l (⟨"com/example/message_ledger/messageledger/group/CommittedOffset", "<init>", "(J[BJ)V"⟩ : MethodName) (head1 (Jvm.Cond.code (⟨"com/example/message_ledger/messageledger/group/CommittedOffset", "<init>", "(J[BJ)V"⟩ : MethodName) prog_20_method_1_code 6 none :: ws) ({ frames := 2, cells := 0, slots := 0, locals := 24 } : Room)) (fun ar UU => ar = #[(.ref a), (.long q1), (.ref a2), (.long q3)] ∧ Z.Warmed39 UU.vm ∧ UU.heap = h0) (fun _ _ _ _ _ => True) (fun _ UU oo UU' => ∃ vv LL, oo = .returned vv ∧ QInit Z a q1 a2 q3 h0 n0 vv UU'.heap LL ∧ FrameEnd UU oo UU' LL ({ frames := 2, cells := 0, slots := 0, locals := 24 } : Room).cells ({ frames := 2, cells := 0, slots := 0, locals := 24 } : Room).slots) := by
  refine MetFree.of_bodySF (plainFor_of_name pn_1) hisR ?_
  intro p e s m args below meth c s₁ Bd hml0 hP hK
  obtain ⟨rfl, hZ, hh⟩ := hP
  have hx := Bd.exec
  have hby := Bd.bytes
  have hml : c.maxLocals = 6 := hml0
  have hown : s.vm.findClass "com/example/message_ledger/messageledger/group/CommittedOffset" = some m.cls := findClass_of_methodNamed Bd.named
  have hnm := (name_of_methodNamed Bd.named Bd.method).1
  have X0 : Stand p l e ({ frames := 2, cells := 0, slots := 0, locals := 24 } : Room) s m #[(.ref a), (.long q1), (.ref a2), (.long q3)] below meth c s₁ [] 0 0 := Stand.of_body Bd
  have e0 : s₁.heap = h0 := by rw [← hh, Bd.state]; rfl
  have N0 := Fr.nil n0
  have KC0 : Keep h0 h0 [a] := Keep.refl h0 [a]
  have pre0 : ∀ tgt, Steps p.tables e below (s₁.setTop (mkF m 0 #[.val (.ref a), .val (.long q1), .second, .val (.ref a2), .val (.long q3), .second] [])) tgt → Steps p.tables e below (s₁.setTop (entryFrame m #[(.ref a), (.long q1), (.ref a2), (.long q3)] 6)) tgt := fun tgt kk => castTop (ef_rmInit m (a) (q1) (a2) (q3)) kk
  have pre1 : ∀ tgt, Steps p.tables e below (s₁.setTop (mkF m 1 #[.val (.ref a), .val (.long q1), .second, .val (.ref a2), .val (.long q3), .second] [(.ref a)])) tgt → Steps p.tables e below (s₁.setTop (entryFrame m #[(.ref a), (.long q1), (.ref a2), (.long q3)] 6)) tgt := by
    intro tgt kk
    refine pre0 tgt ?_
    refine XS.aloadN X0.here hx rfl (hb hby d1_0) rfl rfl ?_
    show Steps p.tables e below (s₁.setTop (mkF m 1 #[.val (.ref a), .val (.long q1), .second, .val (.ref a2), .val (.long q3), .second] [(.ref a)])) _
    exact kk
  obtain ⟨_, _, ⟨T2, L2, k2, n2⟩, -, X2, ⟨Lc2, hQ2, l2, y2, z2⟩, st2⟩ := X0.specialBack hx (y := (⟨"java/lang/Record", "<init>", "()V"⟩ : MethodName)) rfl hown (mvT hZ (hw _ (List.mem_of_getElem? (i := 7) rfl))) (mvT hZ (hw _ (List.mem_of_getElem? (i := 8) rfl))) (mvT hZ (hw _ (List.mem_of_getElem? (i := 11) rfl))) (by decide) (backOf (W := 0) (rmRec l Z a0 hw [] a h0 n0 Z0) hZ (hw _ (List.mem_of_getElem? (i := 11) rfl)) (hw _ (List.mem_of_getElem? (i := 10) rfl)) (by decide) (by decide)) (g := (mkF m 1 #[.val (.ref a), .val (.long q1), .second, .val (.ref a2), .val (.long q3), .second] [(.ref a)])) rfl (by rw [hml]; rfl) (Steps.refl _) (a := a) (argsL := []) (rest := []) (lenOf pd___V rfl) rfl (by show 2 * 0 + _ ≤ _; exact Nat.le_of_eq rfl) (hb hby d1_1) (fun _ _ => ⟨rfl, e0, (by decide : 0 + 0 ≤ _), (by decide : 0 + 0 ≤ _)⟩)
  dsimp only [Pt.U, Pt.locs, Pt.cells, Pt.slots] at X2 l2 y2 z2 st2 hQ2
  subst l2 y2 z2
  obtain ⟨rfl, N2q, hh2⟩ := hQ2
  have N2 := Fr.app N0 N2q
  have pre3 : ∀ tgt, Steps p.tables e below (T2.setTop (mkF m 6 #[.val (.ref a), .val (.long q1), .second, .val (.ref a2), .val (.long q3), .second] [(.long q1), (.ref a)])) tgt → Steps p.tables e below (s₁.setTop (entryFrame m #[(.ref a), (.long q1), (.ref a2), (.long q3)] 6)) tgt := by
    intro tgt kk
    refine pre1 tgt ?_
    refine st2.trans ?_
    show Steps p.tables e below (T2.setTop (mkF m 4 #[.val (.ref a), .val (.long q1), .second, .val (.ref a2), .val (.long q3), .second] [])) _
    refine XS.aloadN X2.here hx rfl (hb hby d1_4) rfl rfl ?_
    show Steps p.tables e below (T2.setTop (mkF m 5 #[.val (.ref a), .val (.long q1), .second, .val (.ref a2), .val (.long q3), .second] [(.ref a)])) _
    refine XS.lloadN X2.here hx rfl (hb hby d1_5) rfl ?_
    show Steps p.tables e below (T2.setTop (mkF m 6 #[.val (.ref a), .val (.long q1), .second, .val (.ref a2), .val (.long q3), .second] [(.long q1), (.ref a)])) _
    exact kk
  obtain ⟨T4, h4, X4, e4, W4, st4⟩ := putF X2 hx hZ hown (host := "") (Or.inl (hw _ (List.mem_of_getElem? (i := 15) rfl))) Via.refl hh2 F_offset E_a (Or.inr ⟨(hw _ (List.mem_of_getElem? (i := 16) rfl)), rfl, hnm⟩) (hw _ (List.mem_of_getElem? (i := 2) rfl)) (ty := .long) (by decide) rfl rfl (g := (mkF m 6 #[.val (.ref a), .val (.long q1), .second, .val (.ref a2), .val (.long q3), .second] [(.long q1), (.ref a)])) rfl rfl (hb hby d1_6)
  have N4 := Fr.snoc X4 N2 g_a
  have Fq4 : Fld Z h4 a "com/example/message_ledger/messageledger/group/CommittedOffset" "offset" "J" (.long q1) := F_offset.same W4
  have E_a : Exa Z h4 a "com/example/message_ledger/messageledger/group/CommittedOffset" := E_a.wr W4
  have F_metadata : Fld Z h4 a "com/example/message_ledger/messageledger/group/CommittedOffset" "metadata" "[B" .null := F_metadata.other W4 (Or.inr (slot_ne (Or.inr (hw _ (List.mem_of_getElem? (i := 18) rfl))) (Or.inr (hw _ (List.mem_of_getElem? (i := 16) rfl))) (by decide) (t := (.array .byte)) (t' := .long) (by decide) (by decide)))
  have F_expiresAt : Fld Z h4 a "com/example/message_ledger/messageledger/group/CommittedOffset" "expiresAt" "J" (.long (0 : Int64)) := F_expiresAt.other W4 (Or.inr (slot_ne (Or.inr (hw _ (List.mem_of_getElem? (i := 20) rfl))) (Or.inr (hw _ (List.mem_of_getElem? (i := 16) rfl))) (by decide) (t := .long) (t' := .long) (by decide) (by decide)))
  have Zs5 : n0 ≤ h4.size := Nat.le_trans Z0 (Keep.of_wr W4).1
  have KC5 : Keep h0 h4 [a] := KC0.wr W4 (Or.inl (List.mem_of_getElem? (i := 0) rfl))
  have F_offset := Fq4
  have pre6 : ∀ tgt, Steps p.tables e below (T4.setTop (mkF m 11 #[.val (.ref a), .val (.long q1), .second, .val (.ref a2), .val (.long q3), .second] [(.ref a2), (.ref a)])) tgt → Steps p.tables e below (s₁.setTop (entryFrame m #[(.ref a), (.long q1), (.ref a2), (.long q3)] 6)) tgt := by
    intro tgt kk
    refine pre3 tgt ?_
    refine st4 _ ?_
    show Steps p.tables e below (T4.setTop (mkF m 9 #[.val (.ref a), .val (.long q1), .second, .val (.ref a2), .val (.long q3), .second] [])) _
    refine XS.aloadN X4.here hx rfl (hb hby d1_9) rfl rfl ?_
    show Steps p.tables e below (T4.setTop (mkF m 10 #[.val (.ref a), .val (.long q1), .second, .val (.ref a2), .val (.long q3), .second] [(.ref a)])) _
    refine XS.aloadN X4.here hx rfl (hb hby d1_10) rfl rfl ?_
    show Steps p.tables e below (T4.setTop (mkF m 11 #[.val (.ref a), .val (.long q1), .second, .val (.ref a2), .val (.long q3), .second] [(.ref a2), (.ref a)])) _
    exact kk
  obtain ⟨T7, h7, X7, e7, W7, st7⟩ := putF X4 hx hZ hown (host := "") (Or.inl (hw _ (List.mem_of_getElem? (i := 17) rfl))) Via.refl e4 F_metadata E_a (Or.inr ⟨(hw _ (List.mem_of_getElem? (i := 18) rfl)), rfl, hnm⟩) (hw _ (List.mem_of_getElem? (i := 2) rfl)) (ty := (.array .byte)) (by decide) rfl rfl (g := (mkF m 11 #[.val (.ref a), .val (.long q1), .second, .val (.ref a2), .val (.long q3), .second] [(.ref a2), (.ref a)])) rfl rfl (hb hby d1_11)
  have N7 := Fr.snoc X7 N4 g_a
  have Fq7 : Fld Z h7 a "com/example/message_ledger/messageledger/group/CommittedOffset" "metadata" "[B" (.ref a2) := F_metadata.same W7
  have E_a : Exa Z h7 a "com/example/message_ledger/messageledger/group/CommittedOffset" := E_a.wr W7
  have F_expiresAt : Fld Z h7 a "com/example/message_ledger/messageledger/group/CommittedOffset" "expiresAt" "J" (.long (0 : Int64)) := F_expiresAt.other W7 (Or.inr (slot_ne (Or.inr (hw _ (List.mem_of_getElem? (i := 20) rfl))) (Or.inr (hw _ (List.mem_of_getElem? (i := 18) rfl))) (by decide) (t := .long) (t' := (.array .byte)) (by decide) (by decide)))
  have F_offset : Fld Z h7 a "com/example/message_ledger/messageledger/group/CommittedOffset" "offset" "J" (.long q1) := F_offset.other W7 (Or.inr (slot_ne (Or.inr (hw _ (List.mem_of_getElem? (i := 16) rfl))) (Or.inr (hw _ (List.mem_of_getElem? (i := 18) rfl))) (by decide) (t := .long) (t' := (.array .byte)) (by decide) (by decide)))
  have Zs8 : n0 ≤ h7.size := Nat.le_trans Zs5 (Keep.of_wr W7).1
  have KC8 : Keep h0 h7 [a] := KC5.wr W7 (Or.inl (List.mem_of_getElem? (i := 0) rfl))
  have F_metadata := Fq7
  have pre9 : ∀ tgt, Steps p.tables e below (T7.setTop (mkF m 17 #[.val (.ref a), .val (.long q1), .second, .val (.ref a2), .val (.long q3), .second] [(.long q3), (.ref a)])) tgt → Steps p.tables e below (s₁.setTop (entryFrame m #[(.ref a), (.long q1), (.ref a2), (.long q3)] 6)) tgt := by
    intro tgt kk
    refine pre6 tgt ?_
    refine st7 _ ?_
    show Steps p.tables e below (T7.setTop (mkF m 14 #[.val (.ref a), .val (.long q1), .second, .val (.ref a2), .val (.long q3), .second] [])) _
    refine XS.aloadN X7.here hx rfl (hb hby d1_14) rfl rfl ?_
    show Steps p.tables e below (T7.setTop (mkF m 15 #[.val (.ref a), .val (.long q1), .second, .val (.ref a2), .val (.long q3), .second] [(.ref a)])) _
    refine XS.lload X7.here hx rfl (hb hby d1_15) rfl ?_
    show Steps p.tables e below (T7.setTop (mkF m 17 #[.val (.ref a), .val (.long q1), .second, .val (.ref a2), .val (.long q3), .second] [(.long q3), (.ref a)])) _
    exact kk
  obtain ⟨T10, h10, X10, e10, W10, st10⟩ := putF X7 hx hZ hown (host := "") (Or.inl (hw _ (List.mem_of_getElem? (i := 19) rfl))) Via.refl e7 F_expiresAt E_a (Or.inr ⟨(hw _ (List.mem_of_getElem? (i := 20) rfl)), rfl, hnm⟩) (hw _ (List.mem_of_getElem? (i := 2) rfl)) (ty := .long) (by decide) rfl rfl (g := (mkF m 17 #[.val (.ref a), .val (.long q1), .second, .val (.ref a2), .val (.long q3), .second] [(.long q3), (.ref a)])) rfl rfl (hb hby d1_17)
  have N10 := Fr.snoc X10 N7 g_a
  have Fq10 : Fld Z h10 a "com/example/message_ledger/messageledger/group/CommittedOffset" "expiresAt" "J" (.long q3) := F_expiresAt.same W10
  have E_a : Exa Z h10 a "com/example/message_ledger/messageledger/group/CommittedOffset" := E_a.wr W10
  have F_offset : Fld Z h10 a "com/example/message_ledger/messageledger/group/CommittedOffset" "offset" "J" (.long q1) := F_offset.other W10 (Or.inr (slot_ne (Or.inr (hw _ (List.mem_of_getElem? (i := 16) rfl))) (Or.inr (hw _ (List.mem_of_getElem? (i := 20) rfl))) (by decide) (t := .long) (t' := .long) (by decide) (by decide)))
  have F_metadata : Fld Z h10 a "com/example/message_ledger/messageledger/group/CommittedOffset" "metadata" "[B" (.ref a2) := F_metadata.other W10 (Or.inr (slot_ne (Or.inr (hw _ (List.mem_of_getElem? (i := 18) rfl))) (Or.inr (hw _ (List.mem_of_getElem? (i := 20) rfl))) (by decide) (t := (.array .byte)) (t' := .long) (by decide) (by decide)))
  have Zs11 : n0 ≤ h10.size := Nat.le_trans Zs8 (Keep.of_wr W10).1
  have KC11 : Keep h0 h10 [a] := KC8.wr W10 (Or.inl (List.mem_of_getElem? (i := 0) rfl))
  have F_expiresAt := Fq10
  obtain ⟨fs, hr, hrun, hended, hW, hsame⟩ := X10.leave (v := none) (fun _ => rfl)
  refine ⟨_, _, pre9 _ ?_, hrun, hended, _, _, rfl, ?_, ⟨_, rfl⟩, hW, hsame.mono (by decide) (by decide)⟩
  · skip
    refine st10 _ ?_
    show Steps p.tables e below (T10.setTop (mkF m 20 #[.val (.ref a), .val (.long q1), .second, .val (.ref a2), .val (.long q3), .second] [])) _
    exact X10.returnOut hx Bd.returns (hb hby d1_20) hr
  · show QInit Z a q1 a2 q3 h0 n0 _ T10.heap _
    rw [e10]
    exact ⟨rfl, N10, KC11, F_offset, F_metadata, F_expiresAt⟩
theorem d4_0 : decode prog_20_method_2_code 0 = .ok (.lload_n 1, 1) := by decide +kernel
theorem d4_1 : decode prog_20_method_2_code 1 = .ok (.aload_n 0, 1) := by decide +kernel
theorem d4_2 : decode prog_20_method_2_code 2 = .ok (.getfield 19, 3) := by decide +kernel
theorem d4_5 : decode prog_20_method_2_code 5 = .ok (.lcmp, 1) := by decide +kernel
theorem d4_6 : decode prog_20_method_2_code 6 = .ok (.ifCond .lt 7, 3) := by decide +kernel
theorem d4_9 : decode prog_20_method_2_code 9 = .ok (.iconst 1, 1) := by decide +kernel
theorem d4_10 : decode prog_20_method_2_code 10 = .ok (.goto 4, 3) := by decide +kernel
theorem d4_13 : decode prog_20_method_2_code 13 = .ok (.iconst 0, 1) := by decide +kernel
theorem d4_14 : decode prog_20_method_2_code 14 = .ok (.ireturn, 1) := by decide +kernel
theorem pn_4 : plainName "com/example/message_ledger/messageledger/group/CommittedOffset" = true := by first | (simp [plainName, overriddenIn]; done) | decide +kernel
theorem ef_rmExp (m : MethodId) (x0 : Addr) (x1 : Int64) : entryFrame m #[(.ref x0), (.long x1)] 3 = mkF m 0 #[.val (.ref x0), .val (.long x1), .second] [] := by first | (simp [entryFrame, mkF, argsToLocals, Value.category]; done) | rfl
def QExp (Z : State) (a : Addr) (x : Int64) (q1 : Int64) (h0 : Heap) (n0 : Nat) (v : Option Value) (h : Heap) (L : List Loc) : Prop := v = some (.int (bI (¬ (q1 < x)))) ∧ Fr n0 L ∧ h = h0
set_option maxRecDepth 65536 in
set_option maxHeartbeats 40000000 in
theorem rmExp (l : Launch) (Z : State) (a0 : Array Value) (hw : ∀ d ∈ tables_1, d.before a0 Z = true) (ws : List Jvm.Cond) (a : Addr) (x : Int64) (q1 : Int64) (h0 : Heap) (n0 : Nat) (Z0 : n0 ≤ h0.size) (F_x : Fld Z h0 a "com/example/message_ledger/messageledger/group/CommittedOffset" "expiresAt" "J" (.long x)) :
    MetFree l (⟨"com/example/message_ledger/messageledger/group/CommittedOffset", "isExpired", "(J)Z"⟩ : MethodName) (head1 (Jvm.Cond.code (⟨"com/example/message_ledger/messageledger/group/CommittedOffset", "isExpired", "(J)Z"⟩ : MethodName) prog_20_method_2_code 3 (some .boolean) :: ws) ({ frames := 0, cells := 0, slots := 0, locals := 0 } : Room)) (fun ar UU => ar = #[(.ref a), (.long q1)] ∧ Z.Warmed39 UU.vm ∧ UU.heap = h0) (fun _ _ _ _ _ => True) (fun _ UU oo UU' => ∃ vv LL, oo = .returned vv ∧ QExp Z a x q1 h0 n0 vv UU'.heap LL ∧ FrameEnd UU oo UU' LL ({ frames := 0, cells := 0, slots := 0, locals := 0 } : Room).cells ({ frames := 0, cells := 0, slots := 0, locals := 0 } : Room).slots) := by
  refine MetFree.of_bodySF (plainFor_of_name pn_4) hisR ?_
  intro p e s m args below meth c s₁ Bd hml0 hP hK
  obtain ⟨rfl, hZ, hh⟩ := hP
  have hx := Bd.exec
  have hby := Bd.bytes
  have hml : c.maxLocals = 3 := hml0
  have hown : s.vm.findClass "com/example/message_ledger/messageledger/group/CommittedOffset" = some m.cls := findClass_of_methodNamed Bd.named
  have hnm := (name_of_methodNamed Bd.named Bd.method).1
  have X0 : Stand p l e ({ frames := 0, cells := 0, slots := 0, locals := 0 } : Room) s m #[(.ref a), (.long q1)] below meth c s₁ [] 0 0 := Stand.of_body Bd
  have e0 : s₁.heap = h0 := by rw [← hh, Bd.state]; rfl
  have N0 := Fr.nil n0
  have KC0 : Keep h0 h0 [] := Keep.refl h0 []
  have pre0 : ∀ tgt, Steps p.tables e below (s₁.setTop (mkF m 0 #[.val (.ref a), .val (.long q1), .second] [])) tgt → Steps p.tables e below (s₁.setTop (entryFrame m #[(.ref a), (.long q1)] 3)) tgt := fun tgt kk => castTop (ef_rmExp m (a) (q1)) kk
  have pre1 : ∀ tgt, Steps p.tables e below (s₁.setTop (mkF m 2 #[.val (.ref a), .val (.long q1), .second] [(.ref a), (.long q1)])) tgt → Steps p.tables e below (s₁.setTop (entryFrame m #[(.ref a), (.long q1)] 3)) tgt := by
    intro tgt kk
    refine pre0 tgt ?_
    refine XS.lloadN X0.here hx rfl (hb hby d4_0) rfl ?_
    show Steps p.tables e below (s₁.setTop (mkF m 1 #[.val (.ref a), .val (.long q1), .second] [(.long q1)])) _
    refine XS.aloadN X0.here hx rfl (hb hby d4_1) rfl rfl ?_
    show Steps p.tables e below (s₁.setTop (mkF m 2 #[.val (.ref a), .val (.long q1), .second] [(.ref a), (.long q1)])) _
    exact kk
  obtain ⟨T2, X2, e2, st2⟩ := getF X0 hx hZ hown (host := "") (Or.inl (hw _ (List.mem_of_getElem? (i := 19) rfl))) Via.refl e0 F_x (g := (mkF m 2 #[.val (.ref a), .val (.long q1), .second] [(.ref a), (.long q1)])) rfl rfl (hb hby d4_2)
  have pre3 : ∀ tgt, Steps p.tables e below (T2.setTop (mkF m 6 #[.val (.ref a), .val (.long q1), .second] [(.int (lcmpW q1 x))])) tgt → Steps p.tables e below (s₁.setTop (entryFrame m #[(.ref a), (.long q1)] 3)) tgt := by
    intro tgt kk
    refine pre1 tgt ?_
    refine st2 _ ?_
    show Steps p.tables e below (T2.setTop (mkF m 5 #[.val (.ref a), .val (.long q1), .second] [(.long x), (.long q1)])) _
    refine XS.lcmp X2.here hx rfl (hb hby d4_5) rfl ?_
    show Steps p.tables e below (T2.setTop (mkF m 6 #[.val (.ref a), .val (.long q1), .second] [(.int (lcmpW q1 x))])) _
    exact kk
  obtain ⟨T5, lo5, X5, N5, e5, pre5⟩ : ∃ (T' : State) (lo : List Loc), Stand p l e ({ frames := 0, cells := 0, slots := 0, locals := 0 } : Room) s m #[(.ref a), (.long q1)] below meth c T' lo 0 0 ∧ Fr n0 lo ∧ T'.heap = h0 ∧ ∀ tgt, Steps p.tables e below (T'.setTop (mkF m 14 #[.val (.ref a), .val (.long q1), .second] [(.int (bI (¬ (q1 < x))))])) tgt → Steps p.tables e below (s₁.setTop (entryFrame m #[(.ref a), (.long q1)] 3)) tgt := by
    by_cases hc6_4 : q1 < x
    · skip
      refine ⟨T2, _, X2, N0, e2, fun tgt kk => ?_⟩
      have kq6 : ((.int (bI (¬ (q1 < x)))) : Value) = (.int (0 : Int32)) := (congrArg Value.int (bI_f (not_not_intro hc6_4)))
      rw [kq6] at kk
      refine pre3 tgt ?_
      refine XS.ifYes X2.here hx rfl (pc0 := 6) (pc' := 13) rfl (hb hby d4_6) rfl (XT.ll_lt_t hc6_4) (by decide) (by decide) ?_
      show Steps p.tables e below (T2.setTop (mkF m 13 #[.val (.ref a), .val (.long q1), .second] [])) _
      refine XS.iconst X2.here hx rfl (hb hby d4_13) ?_
      show Steps p.tables e below (T2.setTop (mkF m 14 #[.val (.ref a), .val (.long q1), .second] [(.int (0 : Int32))])) _
      exact kk
    · skip
      refine ⟨T2, _, X2, N0, e2, fun tgt kk => ?_⟩
      have kq7 : ((.int (bI (¬ (q1 < x)))) : Value) = (.int (1 : Int32)) := (congrArg Value.int (bI_t hc6_4))
      rw [kq7] at kk
      refine pre3 tgt ?_
      refine XS.ifNo X2.here hx rfl (hb hby d4_6) rfl (XT.ll_lt_f hc6_4) ?_
      show Steps p.tables e below (T2.setTop (mkF m 9 #[.val (.ref a), .val (.long q1), .second] [])) _
      refine XS.iconst X2.here hx rfl (hb hby d4_9) ?_
      show Steps p.tables e below (T2.setTop (mkF m 10 #[.val (.ref a), .val (.long q1), .second] [(.int (1 : Int32))])) _
      refine XS.goto X2.here hx rfl (pc0 := 10) (pc' := 14) rfl (hb hby d4_10) (by decide) (by decide) ?_
      show Steps p.tables e below (T2.setTop (mkF m 14 #[.val (.ref a), .val (.long q1), .second] [(.int (1 : Int32))])) _
      exact kk
  obtain ⟨fs, hr, hrun, hended, hW, hsame⟩ := X5.leave (v := some (.int (nar .boolean (bI (¬ (q1 < x)))))) (fun h => by rw [Bd.returns] at h; cases h)
  refine ⟨_, _, pre5 _ ?_, hrun, hended, _, _, rfl, ?_, ⟨_, rfl⟩, hW, hsame.mono (by decide) (by decide)⟩
  · skip
    exact retN X5 hx (t := .boolean) Bd.returns (by simp) (hb hby d4_14) hr
  · show QExp Z a x q1 h0 n0 _ T5.heap _
    rw [e5]
    exact ⟨bI_ret, N5, rfl⟩
theorem pn_0 : plainName "com/example/message_ledger/messageledger/group/CommittedOffsetIsExpiredPinLaw" = true := by first | (simp [plainName, overriddenIn]; done) | decide +kernel
theorem pd__J_BJ_V : parseMethodDescriptor "(J[BJ)V" = some ⟨[.long, (.array .byte), .long], none⟩ := by decide +kernel
theorem pd__J_Z : parseMethodDescriptor "(J)Z" = some ⟨[.long], some .boolean⟩ := by decide +kernel
theorem pd__JJ_J : parseMethodDescriptor "(JJ)J" = some ⟨[.long, .long], some .long⟩ := by decide +kernel
theorem ef_rm0 (m : MethodId) (x0 : Int64) (x1 : Int64) (x2 : Int64) (x3 : Int64) (x4 : Int32) : entryFrame m #[(.long x0), (.long x1), (.long x2), (.long x3), (.int x4)] maxLocals = mkF m 0 #[.val (.long x0), .second, .val (.long x1), .second, .val (.long x2), .second, .val (.long x3), .second, .val (.int x4), .unset, .unset, .unset, .unset, .unset, .unset, .unset, .unset, .unset] [] := by first | (simp [entryFrame, mkF, argsToLocals, Value.category, maxLocals]; done) | rfl
def Q0 (Z : State) (q1 : Int64) (q2 : Int64) (q3 : Int64) (q4 : Int64) (p5 : Int32) (h0 : Heap) (n0 : Nat) (v : Option Value) (h : Heap) (L : List Loc) : Prop := v = some (.int (1 : Int32)) ∧ Fr n0 L
set_option maxRecDepth 65536 in
set_option maxHeartbeats 40000000 in
theorem rm0 (l : Launch) (Z : State) (a0 : Array Value) (hw : ∀ d ∈ tables_1, d.before a0 Z = true) (ws : List Jvm.Cond) (q1 : Int64) (q2 : Int64) (q3 : Int64) (q4 : Int64) (p5 : Int32) (h0 : Heap) (n0 : Nat) (Z0 : n0 ≤ h0.size) :
    MetFree l x (head1 (Jvm.Cond.code x code maxLocals ret :: ws) room_1) (fun ar UU => ar = #[(.long q1), (.long q2), (.long q3), (.long q4), (.int p5)] ∧ Z.Warmed39 UU.vm ∧ UU.heap = h0) (fun _ _ _ _ _ => True) (fun _ UU oo UU' => ∃ vv LL, oo = .returned vv ∧ Q0 Z q1 q2 q3 q4 p5 h0 n0 vv UU'.heap LL ∧ FrameEnd UU oo UU' LL room_1.cells room_1.slots) := by
  refine MetFree.of_bodySF (plainFor_of_name pn_0) hisR ?_
  intro p e s m args below meth c s₁ Bd hml0 hP hK
  obtain ⟨rfl, hZ, hh⟩ := hP
  have hx := Bd.exec
  have hby := Bd.bytes
  have hml : c.maxLocals = 18 := hml0
  have hown : s.vm.findClass "com/example/message_ledger/messageledger/group/CommittedOffsetIsExpiredPinLaw" = some m.cls := findClass_of_methodNamed Bd.named
  have hnm := (name_of_methodNamed Bd.named Bd.method).1
  have X0 : Stand p l e room_1 s m #[(.long q1), (.long q2), (.long q3), (.long q4), (.int p5)] below meth c s₁ [] 0 0 := Stand.of_body Bd
  have e0 : s₁.heap = h0 := by rw [← hh, Bd.state]; rfl
  have N0 := Fr.nil n0
  have KC0 : Keep h0 h0 [] := Keep.refl h0 []
  have pre0 : ∀ tgt, Steps p.tables e below (s₁.setTop (mkF m 0 #[.val (.long q1), .second, .val (.long q2), .second, .val (.long q3), .second, .val (.long q4), .second, .val (.int p5), .unset, .unset, .unset, .unset, .unset, .unset, .unset, .unset, .unset] [])) tgt → Steps p.tables e below (s₁.setTop (entryFrame m #[(.long q1), (.long q2), (.long q3), (.long q4), (.int p5)] maxLocals)) tgt := fun tgt kk => castTop (ef_rm0 m (q1) (q2) (q3) (q4) (p5)) kk
  have pre1 : ∀ tgt, Steps p.tables e below (s₁.setTop (mkF m 1 #[.val (.long q1), .second, .val (.long q2), .second, .val (.long q3), .second, .val (.long q4), .second, .val (.int p5), .unset, .unset, .unset, .unset, .unset, .unset, .unset, .unset, .unset] [(.int (1 : Int32))])) tgt → Steps p.tables e below (s₁.setTop (entryFrame m #[(.long q1), (.long q2), (.long q3), (.long q4), (.int p5)] maxLocals)) tgt := by
    intro tgt kk
    refine pre0 tgt ?_
    refine XS.iconst X0.here hx rfl (hb hby at_0) ?_
    show Steps p.tables e below (s₁.setTop (mkF m 1 #[.val (.long q1), .second, .val (.long q2), .second, .val (.long q3), .second, .val (.long q4), .second, .val (.int p5), .unset, .unset, .unset, .unset, .unset, .unset, .unset, .unset, .unset] [(.int (1 : Int32))])) _
    exact kk
  obtain ⟨T2, h2, k2, X2, e2, E2, A2, st2⟩ := newP X0 hx hZ (hw _ (List.mem_of_getElem? (i := 0) rfl)) e0 (g := (mkF m 1 #[.val (.long q1), .second, .val (.long q2), .second, .val (.long q3), .second, .val (.long q4), .second, .val (.int p5), .unset, .unset, .unset, .unset, .unset, .unset, .unset, .unset, .unset] [(.int (1 : Int32))])) rfl (hb hby at_1) rfl (by decide) (cap := 1) (by decide) (by decide) (by decide) (by decide)
  obtain ⟨b2, g2⟩ : ∃ z, z = h0.size := ⟨_, rfl⟩
  rw [← g2] at A2 st2
  have gn3 : n0 ≤ b2 := Nat.le_trans Z0 (Nat.le_of_eq g2.symm)
  have sz3 : h0.size ≤ b2 := Nat.le_trans KC0.1 (Nat.le_of_eq g2.symm)
  have Zs4 : n0 ≤ h2.size := Nat.le_trans Z0 E2.1
  have KC4 : Keep h0 h2 [] := KC0.ext E2
  have V_b2 : Arv Z h2 b2 k2 .byte (1 : Int32) [(.int (0 : Int32))] (.int (0 : Int32)) := (Arv.new A2 (by decide)).pad (pad_rep [] (.int (0 : Int32)) 1)
  have pre5 : ∀ tgt, Steps p.tables e below (T2.setTop (mkF m 8 #[.val (.long q1), .second, .val (.long q2), .second, .val (.long q3), .second, .val (.long q4), .second, .val (.int p5), .unset, .unset, .unset, .unset, .unset, .unset, .unset, .unset, .unset] [(.int p5.toInt8.toInt32), (.int (0 : Int32)), (.ref b2), (.ref b2)])) tgt → Steps p.tables e below (s₁.setTop (entryFrame m #[(.long q1), (.long q2), (.long q3), (.long q4), (.int p5)] maxLocals)) tgt := by
    intro tgt kk
    refine pre1 tgt ?_
    refine st2 _ ?_
    show Steps p.tables e below (T2.setTop (mkF m 3 #[.val (.long q1), .second, .val (.long q2), .second, .val (.long q3), .second, .val (.long q4), .second, .val (.int p5), .unset, .unset, .unset, .unset, .unset, .unset, .unset, .unset, .unset] [(.ref b2)])) _
    refine XS.dup X2.here hx rfl (hb hby at_3) rfl rfl ?_
    show Steps p.tables e below (T2.setTop (mkF m 4 #[.val (.long q1), .second, .val (.long q2), .second, .val (.long q3), .second, .val (.long q4), .second, .val (.int p5), .unset, .unset, .unset, .unset, .unset, .unset, .unset, .unset, .unset] [(.ref b2), (.ref b2)])) _
    refine XS.iconst X2.here hx rfl (hb hby at_4) ?_
    show Steps p.tables e below (T2.setTop (mkF m 5 #[.val (.long q1), .second, .val (.long q2), .second, .val (.long q3), .second, .val (.long q4), .second, .val (.int p5), .unset, .unset, .unset, .unset, .unset, .unset, .unset, .unset, .unset] [(.int (0 : Int32)), (.ref b2), (.ref b2)])) _
    refine XS.iload X2.here hx rfl (hb hby at_5) rfl ?_
    show Steps p.tables e below (T2.setTop (mkF m 7 #[.val (.long q1), .second, .val (.long q2), .second, .val (.long q3), .second, .val (.long q4), .second, .val (.int p5), .unset, .unset, .unset, .unset, .unset, .unset, .unset, .unset, .unset] [(.int p5), (.int (0 : Int32)), (.ref b2), (.ref b2)])) _
    refine XS.i2b X2.here hx rfl (hb hby at_7) rfl ?_
    show Steps p.tables e below (T2.setTop (mkF m 8 #[.val (.long q1), .second, .val (.long q2), .second, .val (.long q3), .second, .val (.long q4), .second, .val (.int p5), .unset, .unset, .unset, .unset, .unset, .unset, .unset, .unset, .unset] [(.int p5.toInt8.toInt32), (.int (0 : Int32)), (.ref b2), (.ref b2)])) _
    exact kk
  obtain ⟨cl6, Ar6, aq6, aS6, aN6, aH6, aG6⟩ := V_b2
  have hin7 : ¬ ((0 : Int32) < 0 ∨ cl6.slots.size ≤ ((0 : Int32)).toNatClampNeg) := inb_of aS6 ⟨by decide, by decide⟩
  obtain ⟨T7, h7, X7, e7, W7, st7⟩ := stB X2 hx hZ e2 Ar6 (j := (0 : Int32)) hin7 (g := (mkF m 8 #[.val (.long q1), .second, .val (.long q2), .second, .val (.long q3), .second, .val (.long q4), .second, .val (.int p5), .unset, .unset, .unset, .unset, .unset, .unset, .unset, .unset, .unset] [(.int p5.toInt8.toInt32), (.int (0 : Int32)), (.ref b2), (.ref b2)])) rfl rfl (hb hby at_8)
  have N7 := Fr.snoc X7 N0 gn3
  have Vq7 : Arv Z h7 b2 k2 .byte (1 : Int32) [(.int (nar .byte p5.toInt8.toInt32))] (.int (0 : Int32)) := Arv.set Ar6 aq6 aS6 aN6 aH6 aG6 (fits_nar_byte _) W7 0 rfl (Nat.le_of_ble_eq_true rfl)
  have Zs8 : n0 ≤ h7.size := Nat.le_trans Zs4 (Keep.of_wr W7).1
  have KC8 : Keep h0 h7 [] := KC4.wr W7 (Or.inr sz3)
  have V_b2 := Vq7
  have pre9 : ∀ tgt, Steps p.tables e below (T7.setTop (mkF m 11 #[.val (.long q1), .second, .val (.long q2), .second, .val (.long q3), .second, .val (.long q4), .second, .val (.int p5), .val (.ref b2), .unset, .unset, .unset, .unset, .unset, .unset, .unset, .unset] [])) tgt → Steps p.tables e below (s₁.setTop (entryFrame m #[(.long q1), (.long q2), (.long q3), (.long q4), (.int p5)] maxLocals)) tgt := by
    intro tgt kk
    refine pre5 tgt ?_
    refine st7 _ ?_
    show Steps p.tables e below (T7.setTop (mkF m 9 #[.val (.long q1), .second, .val (.long q2), .second, .val (.long q3), .second, .val (.long q4), .second, .val (.int p5), .unset, .unset, .unset, .unset, .unset, .unset, .unset, .unset, .unset] [(.ref b2)])) _
    refine XS.astore X7.here hx rfl (hb hby at_9) rfl rfl (l' := #[.val (.long q1), .second, .val (.long q2), .second, .val (.long q3), .second, .val (.long q4), .second, .val (.int p5), .val (.ref b2), .unset, .unset, .unset, .unset, .unset, .unset, .unset, .unset]) rfl ?_
    show Steps p.tables e below (T7.setTop (mkF m 11 #[.val (.long q1), .second, .val (.long q2), .second, .val (.long q3), .second, .val (.long q4), .second, .val (.int p5), .val (.ref b2), .unset, .unset, .unset, .unset, .unset, .unset, .unset, .unset] [])) _
    exact kk
  obtain ⟨T10, h10, X10, e10, E10, A10, D10, -, st10⟩ := newO X7 hx hZ hown (hw _ (List.mem_of_getElem? (i := 1) rfl)) (hw _ (List.mem_of_getElem? (i := 2) rfl)) (hw _ (List.mem_of_getElem? (i := 3) rfl)) e7 (g := (mkF m 11 #[.val (.long q1), .second, .val (.long q2), .second, .val (.long q3), .second, .val (.long q4), .second, .val (.int p5), .val (.ref b2), .unset, .unset, .unset, .unset, .unset, .unset, .unset, .unset] [])) rfl (hb hby at_11) (by decide) (by decide)
  obtain ⟨b10, g10⟩ : ∃ z, z = h7.size := ⟨_, rfl⟩
  rw [← g10] at A10 D10 st10
  have ne11 : b2 ≠ b10 := Nat.ne_of_lt (Nat.lt_of_lt_of_le V_b2.lt (Nat.le_of_eq g10.symm))
  have gn12 : n0 ≤ b10 := Nat.le_trans Zs8 (Nat.le_of_eq g10.symm)
  have sz12 : h0.size ≤ b10 := Nat.le_trans KC8.1 (Nat.le_of_eq g10.symm)
  have V_b2 : Arv Z h10 b2 k2 .byte (1 : Int32) [(.int (nar .byte p5.toInt8.toInt32))] (.int (0 : Int32)) := V_b2.ext E10
  have Zs13 : n0 ≤ h10.size := Nat.le_trans Zs8 E10.1
  have KC13 : Keep h0 h10 [] := KC8.ext E10
  have E_b10 : Exa Z h10 b10 "com/example/message_ledger/messageledger/group/CommittedOffset" := A10
  have F_offset_b10 : Fld Z h10 b10 "com/example/message_ledger/messageledger/group/CommittedOffset" "offset" "J" (.long (0 : Int64)) := D10 (Or.inr (hw _ (List.mem_of_getElem? (i := 16) rfl))) (ty := .long) (by decide)
  have F_metadata_b10 : Fld Z h10 b10 "com/example/message_ledger/messageledger/group/CommittedOffset" "metadata" "[B" .null := D10 (Or.inr (hw _ (List.mem_of_getElem? (i := 18) rfl))) (ty := (.array .byte)) (by decide)
  have F_expiresAt_b10 : Fld Z h10 b10 "com/example/message_ledger/messageledger/group/CommittedOffset" "expiresAt" "J" (.long (0 : Int64)) := D10 (Or.inr (hw _ (List.mem_of_getElem? (i := 20) rfl))) (ty := .long) (by decide)
  have pre14 : ∀ tgt, Steps p.tables e below (T10.setTop (mkF m 19 #[.val (.long q1), .second, .val (.long q2), .second, .val (.long q3), .second, .val (.long q4), .second, .val (.int p5), .val (.ref b2), .unset, .unset, .unset, .unset, .unset, .unset, .unset, .unset] [(.long q2), (.ref b2), (.long q1), (.ref b10), (.ref b10)])) tgt → Steps p.tables e below (s₁.setTop (entryFrame m #[(.long q1), (.long q2), (.long q3), (.long q4), (.int p5)] maxLocals)) tgt := by
    intro tgt kk
    refine pre9 tgt ?_
    refine st10 _ ?_
    show Steps p.tables e below (T10.setTop (mkF m 14 #[.val (.long q1), .second, .val (.long q2), .second, .val (.long q3), .second, .val (.long q4), .second, .val (.int p5), .val (.ref b2), .unset, .unset, .unset, .unset, .unset, .unset, .unset, .unset] [(.ref b10)])) _
    refine XS.dup X10.here hx rfl (hb hby at_14) rfl rfl ?_
    show Steps p.tables e below (T10.setTop (mkF m 15 #[.val (.long q1), .second, .val (.long q2), .second, .val (.long q3), .second, .val (.long q4), .second, .val (.int p5), .val (.ref b2), .unset, .unset, .unset, .unset, .unset, .unset, .unset, .unset] [(.ref b10), (.ref b10)])) _
    refine XS.lloadN X10.here hx rfl (hb hby at_15) rfl ?_
    show Steps p.tables e below (T10.setTop (mkF m 16 #[.val (.long q1), .second, .val (.long q2), .second, .val (.long q3), .second, .val (.long q4), .second, .val (.int p5), .val (.ref b2), .unset, .unset, .unset, .unset, .unset, .unset, .unset, .unset] [(.long q1), (.ref b10), (.ref b10)])) _
    refine XS.aload X10.here hx rfl (hb hby at_16) rfl rfl ?_
    show Steps p.tables e below (T10.setTop (mkF m 18 #[.val (.long q1), .second, .val (.long q2), .second, .val (.long q3), .second, .val (.long q4), .second, .val (.int p5), .val (.ref b2), .unset, .unset, .unset, .unset, .unset, .unset, .unset, .unset] [(.ref b2), (.long q1), (.ref b10), (.ref b10)])) _
    refine XS.lloadN X10.here hx rfl (hb hby at_18) rfl ?_
    show Steps p.tables e below (T10.setTop (mkF m 19 #[.val (.long q1), .second, .val (.long q2), .second, .val (.long q3), .second, .val (.long q4), .second, .val (.int p5), .val (.ref b2), .unset, .unset, .unset, .unset, .unset, .unset, .unset, .unset] [(.long q2), (.ref b2), (.long q1), (.ref b10), (.ref b10)])) _
    exact kk
  obtain ⟨_, _, ⟨T15, L15, k15, n15⟩, -, X15, ⟨Lc15, hQ15, l15, y15, z15⟩, st15⟩ := X10.specialBack hx (y := (⟨"com/example/message_ledger/messageledger/group/CommittedOffset", "<init>", "(J[BJ)V"⟩ : MethodName)) rfl hown (mvT hZ (hw _ (List.mem_of_getElem? (i := 4) rfl))) (mvT hZ (hw _ (List.mem_of_getElem? (i := 5) rfl))) (mvT hZ (hw _ (List.mem_of_getElem? (i := 6) rfl))) (by decide) (backOf (W := 1) (rmInit l Z a0 hw [] (b10) (q1) (b2) (q2) h10 n0 Zs13 E_b10 F_offset_b10 F_metadata_b10 F_expiresAt_b10 gn12) hZ (hw _ (List.mem_of_getElem? (i := 6) rfl)) (hw _ (List.mem_of_getElem? (i := 3) rfl)) (by decide) (by decide)) (g := (mkF m 19 #[.val (.long q1), .second, .val (.long q2), .second, .val (.long q3), .second, .val (.long q4), .second, .val (.int p5), .val (.ref b2), .unset, .unset, .unset, .unset, .unset, .unset, .unset, .unset] [(.long q2), (.ref b2), (.long q1), (.ref b10), (.ref b10)])) rfl (by rw [hml]; rfl) (Steps.refl _) (a := b10) (argsL := [(.long q1), (.ref b2), (.long q2)]) (rest := [(.ref b10)]) (lenOf pd__J_BJ_V rfl) rfl (by show 2 * 0 + _ ≤ _; exact Nat.le_of_eq rfl) (hb hby at_19) (fun _ _ => ⟨rfl, e10, (by decide : 2 + 0 ≤ _), (by decide : 4 + 0 ≤ _)⟩)
  dsimp only [Pt.U, Pt.locs, Pt.cells, Pt.slots] at X15 l15 y15 z15 st15 hQ15
  subst l15 y15 z15
  obtain ⟨rfl, N15q, K15, Fq15_0, Fq15_1, Fq15_2⟩ := hQ15
  have N15 := Fr.app N7 N15q
  have V_b2 : Arv Z T15.heap b2 k2 .byte (1 : Int32) [(.int (nar .byte p5.toInt8.toInt32))] (.int (0 : Int32)) := V_b2.keep K15 (ninS ne11 nin0)
  have E_b10 : Exa Z T15.heap b10 "com/example/message_ledger/messageledger/group/CommittedOffset" := E_b10.keep K15
  have Zs16 : n0 ≤ T15.heap.size := Nat.le_trans Zs13 K15.1
  have KC16 : Keep h0 T15.heap [] := KC13.trans K15 (allS (Or.inr sz12) all0)
  have F_offset_b10 := Fq15_0
  have F_metadata_b10 := Fq15_1
  have F_expiresAt_b10 := Fq15_2
  have pre17 : ∀ tgt, Steps p.tables e below (T15.setTop (mkF m 27 #[.val (.long q1), .second, .val (.long q2), .second, .val (.long q3), .second, .val (.long q4), .second, .val (.int p5), .val (.ref b2), .val (.ref b10), .unset, .unset, .unset, .unset, .unset, .unset, .unset] [(.long q2), (.ref b10)])) tgt → Steps p.tables e below (s₁.setTop (entryFrame m #[(.long q1), (.long q2), (.long q3), (.long q4), (.int p5)] maxLocals)) tgt := by
    intro tgt kk
    refine pre14 tgt ?_
    refine st15.trans ?_
    show Steps p.tables e below (T15.setTop (mkF m 22 #[.val (.long q1), .second, .val (.long q2), .second, .val (.long q3), .second, .val (.long q4), .second, .val (.int p5), .val (.ref b2), .unset, .unset, .unset, .unset, .unset, .unset, .unset, .unset] [(.ref b10)])) _
    refine XS.astore X15.here hx rfl (hb hby at_22) rfl rfl (l' := #[.val (.long q1), .second, .val (.long q2), .second, .val (.long q3), .second, .val (.long q4), .second, .val (.int p5), .val (.ref b2), .val (.ref b10), .unset, .unset, .unset, .unset, .unset, .unset, .unset]) rfl ?_
    show Steps p.tables e below (T15.setTop (mkF m 24 #[.val (.long q1), .second, .val (.long q2), .second, .val (.long q3), .second, .val (.long q4), .second, .val (.int p5), .val (.ref b2), .val (.ref b10), .unset, .unset, .unset, .unset, .unset, .unset, .unset] [])) _
    refine XS.aload X15.here hx rfl (hb hby at_24) rfl rfl ?_
    show Steps p.tables e below (T15.setTop (mkF m 26 #[.val (.long q1), .second, .val (.long q2), .second, .val (.long q3), .second, .val (.long q4), .second, .val (.int p5), .val (.ref b2), .val (.ref b10), .unset, .unset, .unset, .unset, .unset, .unset, .unset] [(.ref b10)])) _
    refine XS.lloadN X15.here hx rfl (hb hby at_26) rfl ?_
    show Steps p.tables e below (T15.setTop (mkF m 27 #[.val (.long q1), .second, .val (.long q2), .second, .val (.long q3), .second, .val (.long q4), .second, .val (.int p5), .val (.ref b2), .val (.ref b10), .unset, .unset, .unset, .unset, .unset, .unset, .unset] [(.long q2), (.ref b10)])) _
    exact kk
  obtain ⟨cq18, kq18, q18a, q18b, q18c⟩ := isOf hZ rfl E_b10
  obtain ⟨_, _, ⟨T18, L18, k18, n18⟩, -, X18, ⟨Lc18, hQ18, l18, y18, z18⟩, st18⟩ := X15.virtualBack hx (y := (⟨"com/example/message_ledger/messageledger/group/CommittedOffset", "isExpired", "(J)Z"⟩ : MethodName)) (z := (⟨"com/example/message_ledger/messageledger/group/CommittedOffset", "isExpired", "(J)Z"⟩ : MethodName)) hown (mvT hZ (hw _ (List.mem_of_getElem? (i := 21) rfl))) (mvT hZ (hw _ (List.mem_of_getElem? (i := 22) rfl))) (notFace_of_selects (args := #[]) (mvT hZ (hw _ (List.mem_of_getElem? (i := 24) rfl)))) (mvT hZ (hw _ (List.mem_of_getElem? (i := 24) rfl))) (mvT hZ (hw _ (List.mem_of_getElem? (i := 23) rfl))) (by decide) (backOf (W := 0) (rmExp l Z a0 hw [] b10 (q2) (q2) T15.heap n0 Zs16 F_expiresAt_b10) hZ (hw _ (List.mem_of_getElem? (i := 25) rfl)) (hw _ (List.mem_of_getElem? (i := 3) rfl)) (by decide) (by decide)) q18a q18c (g := (mkF m 27 #[.val (.long q1), .second, .val (.long q2), .second, .val (.long q3), .second, .val (.long q4), .second, .val (.int p5), .val (.ref b2), .val (.ref b10), .unset, .unset, .unset, .unset, .unset, .unset, .unset] [(.long q2), (.ref b10)])) rfl (by rw [hml]; rfl) (Steps.refl _) (argsL := [(.long q2)]) (rest := []) (lenOf pd__J_Z rfl) rfl (by show 2 * 0 + _ ≤ _; exact Nat.le_of_eq rfl) (hb hby at_27) (fun _ _ => ⟨rfl, rfl, (by decide : 2 + 0 ≤ _), (by decide : 4 + 0 ≤ _)⟩)
  dsimp only [Pt.U, Pt.locs, Pt.cells, Pt.slots] at X18 l18 y18 z18 st18 hQ18
  subst l18 y18 z18
  obtain ⟨rfl, N18q, hh18⟩ := hQ18
  have N18 := Fr.app N15 N18q
  have pre19 : ∀ tgt, Steps p.tables e below (T18.setTop (mkF m 37 #[.val (.long q1), .second, .val (.long q2), .second, .val (.long q3), .second, .val (.long q4), .second, .val (.int p5), .val (.ref b2), .val (.ref b10), .val (.int (bI (¬ (q2 < q2)))), .unset, .unset, .unset, .unset, .unset, .unset] [(.int (lcmpW q2 (-9223372036854775808 : Int64)))])) tgt → Steps p.tables e below (s₁.setTop (entryFrame m #[(.long q1), (.long q2), (.long q3), (.long q4), (.int p5)] maxLocals)) tgt := by
    intro tgt kk
    refine pre17 tgt ?_
    refine st18.trans ?_
    show Steps p.tables e below (T18.setTop (mkF m 30 #[.val (.long q1), .second, .val (.long q2), .second, .val (.long q3), .second, .val (.long q4), .second, .val (.int p5), .val (.ref b2), .val (.ref b10), .unset, .unset, .unset, .unset, .unset, .unset, .unset] [(.int (bI (¬ (q2 < q2))))])) _
    refine XS.istore X18.here hx rfl (hb hby at_30) rfl (l' := #[.val (.long q1), .second, .val (.long q2), .second, .val (.long q3), .second, .val (.long q4), .second, .val (.int p5), .val (.ref b2), .val (.ref b10), .val (.int (bI (¬ (q2 < q2)))), .unset, .unset, .unset, .unset, .unset, .unset]) rfl ?_
    show Steps p.tables e below (T18.setTop (mkF m 32 #[.val (.long q1), .second, .val (.long q2), .second, .val (.long q3), .second, .val (.long q4), .second, .val (.int p5), .val (.ref b2), .val (.ref b10), .val (.int (bI (¬ (q2 < q2)))), .unset, .unset, .unset, .unset, .unset, .unset] [])) _
    refine XS.lloadN X18.here hx rfl (hb hby at_32) rfl ?_
    show Steps p.tables e below (T18.setTop (mkF m 33 #[.val (.long q1), .second, .val (.long q2), .second, .val (.long q3), .second, .val (.long q4), .second, .val (.int p5), .val (.ref b2), .val (.ref b10), .val (.int (bI (¬ (q2 < q2)))), .unset, .unset, .unset, .unset, .unset, .unset] [(.long q2)])) _
    refine X18.ldc2Long hx hown (mvT hZ (hw _ (List.mem_of_getElem? (i := 26) rfl))) (g := (mkF m 33 #[.val (.long q1), .second, .val (.long q2), .second, .val (.long q3), .second, .val (.long q4), .second, .val (.int p5), .val (.ref b2), .val (.ref b10), .val (.int (bI (¬ (q2 < q2)))), .unset, .unset, .unset, .unset, .unset, .unset] [(.long q2)])) rfl (hb hby at_33) _ ?_
    show Steps p.tables e below (T18.setTop (mkF m 36 #[.val (.long q1), .second, .val (.long q2), .second, .val (.long q3), .second, .val (.long q4), .second, .val (.int p5), .val (.ref b2), .val (.ref b10), .val (.int (bI (¬ (q2 < q2)))), .unset, .unset, .unset, .unset, .unset, .unset] [(.long (-9223372036854775808 : Int64)), (.long q2)])) _
    refine XS.lcmp X18.here hx rfl (hb hby at_36) rfl ?_
    show Steps p.tables e below (T18.setTop (mkF m 37 #[.val (.long q1), .second, .val (.long q2), .second, .val (.long q3), .second, .val (.long q4), .second, .val (.int p5), .val (.ref b2), .val (.ref b10), .val (.int (bI (¬ (q2 < q2)))), .unset, .unset, .unset, .unset, .unset, .unset] [(.int (lcmpW q2 (-9223372036854775808 : Int64)))])) _
    exact kk
  obtain ⟨T25, lo25, X25, N25, e25, pre25⟩ : ∃ (T' : State) (lo : List Loc), Stand p l e room_1 s m #[(.long q1), (.long q2), (.long q3), (.long q4), (.int p5)] below meth c T' lo 2 4 ∧ Fr n0 lo ∧ T'.heap = T15.heap ∧ ∀ tgt, Steps p.tables e below (T'.setTop (mkF m 56 #[.val (.long q1), .second, .val (.long q2), .second, .val (.long q3), .second, .val (.long q4), .second, .val (.int p5), .val (.ref b2), .val (.ref b10), .val (.int (bI (¬ (q2 < q2)))), .unset, .unset, .unset, .unset, .unset, .unset] [(.int (bI ((q2 = (-9223372036854775808 : Int64)) ∨ (¬ (¬ ((q2 - (1 : Int64)) < q2))))))])) tgt → Steps p.tables e below (s₁.setTop (entryFrame m #[(.long q1), (.long q2), (.long q3), (.long q4), (.int p5)] maxLocals)) tgt := by
    by_cases hc37_20 : q2 = (-9223372036854775808 : Int64)
    · skip
      refine ⟨T18, _, X18, N18, hh18, fun tgt kk => ?_⟩
      have kq26 : ((.int (bI ((q2 = (-9223372036854775808 : Int64)) ∨ (¬ (¬ ((q2 - (1 : Int64)) < q2)))))) : Value) = (.int (1 : Int32)) := (congrArg Value.int (bI_t (Or.inl hc37_20)))
      rw [kq26] at kk
      refine pre19 tgt ?_
      refine XS.ifYes X18.here hx rfl (pc0 := 37) (pc' := 51) rfl (hb hby at_37) rfl (XT.ll_eq_t hc37_20) (by decide) (by decide) ?_
      show Steps p.tables e below (T18.setTop (mkF m 51 #[.val (.long q1), .second, .val (.long q2), .second, .val (.long q3), .second, .val (.long q4), .second, .val (.int p5), .val (.ref b2), .val (.ref b10), .val (.int (bI (¬ (q2 < q2)))), .unset, .unset, .unset, .unset, .unset, .unset] [])) _
      refine XS.iconst X18.here hx rfl (hb hby at_51) ?_
      show Steps p.tables e below (T18.setTop (mkF m 52 #[.val (.long q1), .second, .val (.long q2), .second, .val (.long q3), .second, .val (.long q4), .second, .val (.int p5), .val (.ref b2), .val (.ref b10), .val (.int (bI (¬ (q2 < q2)))), .unset, .unset, .unset, .unset, .unset, .unset] [(.int (1 : Int32))])) _
      refine XS.goto X18.here hx rfl (pc0 := 52) (pc' := 56) rfl (hb hby at_52) (by decide) (by decide) ?_
      show Steps p.tables e below (T18.setTop (mkF m 56 #[.val (.long q1), .second, .val (.long q2), .second, .val (.long q3), .second, .val (.long q4), .second, .val (.int p5), .val (.ref b2), .val (.ref b10), .val (.int (bI (¬ (q2 < q2)))), .unset, .unset, .unset, .unset, .unset, .unset] [(.int (1 : Int32))])) _
      exact kk
    · skip
      have pre21 : ∀ tgt, Steps p.tables e below (T18.setTop (mkF m 45 #[.val (.long q1), .second, .val (.long q2), .second, .val (.long q3), .second, .val (.long q4), .second, .val (.int p5), .val (.ref b2), .val (.ref b10), .val (.int (bI (¬ (q2 < q2)))), .unset, .unset, .unset, .unset, .unset, .unset] [(.long (q2 - (1 : Int64))), (.ref b10)])) tgt → Steps p.tables e below (s₁.setTop (entryFrame m #[(.long q1), (.long q2), (.long q3), (.long q4), (.int p5)] maxLocals)) tgt := by
        intro tgt kk
        refine pre19 tgt ?_
        refine XS.ifNo X18.here hx rfl (hb hby at_37) rfl (XT.ll_eq_f hc37_20) ?_
        show Steps p.tables e below (T18.setTop (mkF m 40 #[.val (.long q1), .second, .val (.long q2), .second, .val (.long q3), .second, .val (.long q4), .second, .val (.int p5), .val (.ref b2), .val (.ref b10), .val (.int (bI (¬ (q2 < q2)))), .unset, .unset, .unset, .unset, .unset, .unset] [])) _
        refine XS.aload X18.here hx rfl (hb hby at_40) rfl rfl ?_
        show Steps p.tables e below (T18.setTop (mkF m 42 #[.val (.long q1), .second, .val (.long q2), .second, .val (.long q3), .second, .val (.long q4), .second, .val (.int p5), .val (.ref b2), .val (.ref b10), .val (.int (bI (¬ (q2 < q2)))), .unset, .unset, .unset, .unset, .unset, .unset] [(.ref b10)])) _
        refine XS.lloadN X18.here hx rfl (hb hby at_42) rfl ?_
        show Steps p.tables e below (T18.setTop (mkF m 43 #[.val (.long q1), .second, .val (.long q2), .second, .val (.long q3), .second, .val (.long q4), .second, .val (.int p5), .val (.ref b2), .val (.ref b10), .val (.int (bI (¬ (q2 < q2)))), .unset, .unset, .unset, .unset, .unset, .unset] [(.long q2), (.ref b10)])) _
        refine XS.lconst X18.here hx rfl (hb hby at_43) ?_
        show Steps p.tables e below (T18.setTop (mkF m 44 #[.val (.long q1), .second, .val (.long q2), .second, .val (.long q3), .second, .val (.long q4), .second, .val (.int p5), .val (.ref b2), .val (.ref b10), .val (.int (bI (¬ (q2 < q2)))), .unset, .unset, .unset, .unset, .unset, .unset] [(.long (1 : Int64)), (.long q2), (.ref b10)])) _
        refine XS.lsub X18.here hx rfl (hb hby at_44) rfl ?_
        show Steps p.tables e below (T18.setTop (mkF m 45 #[.val (.long q1), .second, .val (.long q2), .second, .val (.long q3), .second, .val (.long q4), .second, .val (.int p5), .val (.ref b2), .val (.ref b10), .val (.int (bI (¬ (q2 < q2)))), .unset, .unset, .unset, .unset, .unset, .unset] [(.long (q2 - (1 : Int64))), (.ref b10)])) _
        exact kk
      obtain ⟨cq22, kq22, q22a, q22b, q22c⟩ := isOf hZ hh18 E_b10
      obtain ⟨_, _, ⟨T22, L22, k22, n22⟩, -, X22, ⟨Lc22, hQ22, l22, y22, z22⟩, st22⟩ := X18.virtualBack hx (y := (⟨"com/example/message_ledger/messageledger/group/CommittedOffset", "isExpired", "(J)Z"⟩ : MethodName)) (z := (⟨"com/example/message_ledger/messageledger/group/CommittedOffset", "isExpired", "(J)Z"⟩ : MethodName)) hown (mvT hZ (hw _ (List.mem_of_getElem? (i := 21) rfl))) (mvT hZ (hw _ (List.mem_of_getElem? (i := 22) rfl))) (notFace_of_selects (args := #[]) (mvT hZ (hw _ (List.mem_of_getElem? (i := 24) rfl)))) (mvT hZ (hw _ (List.mem_of_getElem? (i := 24) rfl))) (mvT hZ (hw _ (List.mem_of_getElem? (i := 23) rfl))) (by decide) (backOf (W := 0) (rmExp l Z a0 hw [] b10 (q2) ((q2 - (1 : Int64))) T15.heap n0 Zs16 F_expiresAt_b10) hZ (hw _ (List.mem_of_getElem? (i := 25) rfl)) (hw _ (List.mem_of_getElem? (i := 3) rfl)) (by decide) (by decide)) q22a q22c (g := (mkF m 45 #[.val (.long q1), .second, .val (.long q2), .second, .val (.long q3), .second, .val (.long q4), .second, .val (.int p5), .val (.ref b2), .val (.ref b10), .val (.int (bI (¬ (q2 < q2)))), .unset, .unset, .unset, .unset, .unset, .unset] [(.long (q2 - (1 : Int64))), (.ref b10)])) rfl (by rw [hml]; rfl) (Steps.refl _) (argsL := [(.long (q2 - (1 : Int64)))]) (rest := []) (lenOf pd__J_Z rfl) rfl (by show 2 * 0 + _ ≤ _; exact Nat.le_of_eq rfl) (hb hby at_45) (fun _ _ => ⟨rfl, hh18, (by decide : 2 + 0 ≤ _), (by decide : 4 + 0 ≤ _)⟩)
      dsimp only [Pt.U, Pt.locs, Pt.cells, Pt.slots] at X22 l22 y22 z22 st22 hQ22
      subst l22 y22 z22
      obtain ⟨rfl, N22q, hh22⟩ := hQ22
      have N22 := Fr.app N18 N22q
      have pre23 : ∀ tgt, Steps p.tables e below (T22.setTop (mkF m 48 #[.val (.long q1), .second, .val (.long q2), .second, .val (.long q3), .second, .val (.long q4), .second, .val (.int p5), .val (.ref b2), .val (.ref b10), .val (.int (bI (¬ (q2 < q2)))), .unset, .unset, .unset, .unset, .unset, .unset] [(.int (bI (¬ ((q2 - (1 : Int64)) < q2))))])) tgt → Steps p.tables e below (s₁.setTop (entryFrame m #[(.long q1), (.long q2), (.long q3), (.long q4), (.int p5)] maxLocals)) tgt := by
        intro tgt kk
        refine pre21 tgt ?_
        refine st22.trans ?_
        show Steps p.tables e below (T22.setTop (mkF m 48 #[.val (.long q1), .second, .val (.long q2), .second, .val (.long q3), .second, .val (.long q4), .second, .val (.int p5), .val (.ref b2), .val (.ref b10), .val (.int (bI (¬ (q2 < q2)))), .unset, .unset, .unset, .unset, .unset, .unset] [(.int (bI (¬ ((q2 - (1 : Int64)) < q2))))])) _
        exact kk
      by_cases hc48_24 : ¬ ((q2 - (1 : Int64)) < q2)
      · skip
        refine ⟨T22, _, X22, N22, hh22, fun tgt kk => ?_⟩
        have kq27 : ((.int (bI ((q2 = (-9223372036854775808 : Int64)) ∨ (¬ (¬ ((q2 - (1 : Int64)) < q2)))))) : Value) = (.int (0 : Int32)) := ((congrArg Value.int (bI_iff (or_iff_right hc37_20))).trans (congrArg Value.int (bI_f (not_not_intro hc48_24))))
        rw [kq27] at kk
        refine pre23 tgt ?_
        refine XS.ifYes X22.here hx rfl (pc0 := 48) (pc' := 55) rfl (hb hby at_48) rfl (bB_ne_t hc48_24) (by decide) (by decide) ?_
        show Steps p.tables e below (T22.setTop (mkF m 55 #[.val (.long q1), .second, .val (.long q2), .second, .val (.long q3), .second, .val (.long q4), .second, .val (.int p5), .val (.ref b2), .val (.ref b10), .val (.int (bI (¬ (q2 < q2)))), .unset, .unset, .unset, .unset, .unset, .unset] [])) _
        refine XS.iconst X22.here hx rfl (hb hby at_55) ?_
        show Steps p.tables e below (T22.setTop (mkF m 56 #[.val (.long q1), .second, .val (.long q2), .second, .val (.long q3), .second, .val (.long q4), .second, .val (.int p5), .val (.ref b2), .val (.ref b10), .val (.int (bI (¬ (q2 < q2)))), .unset, .unset, .unset, .unset, .unset, .unset] [(.int (0 : Int32))])) _
        exact kk
      · skip
        refine ⟨T22, _, X22, N22, hh22, fun tgt kk => ?_⟩
        have kq28 : ((.int (bI ((q2 = (-9223372036854775808 : Int64)) ∨ (¬ (¬ ((q2 - (1 : Int64)) < q2)))))) : Value) = (.int (1 : Int32)) := ((congrArg Value.int (bI_iff (or_iff_right hc37_20))).trans (congrArg Value.int (bI_t hc48_24)))
        rw [kq28] at kk
        refine pre23 tgt ?_
        refine XS.ifNo X22.here hx rfl (hb hby at_48) rfl (bB_ne_f hc48_24) ?_
        show Steps p.tables e below (T22.setTop (mkF m 51 #[.val (.long q1), .second, .val (.long q2), .second, .val (.long q3), .second, .val (.long q4), .second, .val (.int p5), .val (.ref b2), .val (.ref b10), .val (.int (bI (¬ (q2 < q2)))), .unset, .unset, .unset, .unset, .unset, .unset] [])) _
        refine XS.iconst X22.here hx rfl (hb hby at_51) ?_
        show Steps p.tables e below (T22.setTop (mkF m 52 #[.val (.long q1), .second, .val (.long q2), .second, .val (.long q3), .second, .val (.long q4), .second, .val (.int p5), .val (.ref b2), .val (.ref b10), .val (.int (bI (¬ (q2 < q2)))), .unset, .unset, .unset, .unset, .unset, .unset] [(.int (1 : Int32))])) _
        refine XS.goto X22.here hx rfl (pc0 := 52) (pc' := 56) rfl (hb hby at_52) (by decide) (by decide) ?_
        show Steps p.tables e below (T22.setTop (mkF m 56 #[.val (.long q1), .second, .val (.long q2), .second, .val (.long q3), .second, .val (.long q4), .second, .val (.int p5), .val (.ref b2), .val (.ref b10), .val (.int (bI (¬ (q2 < q2)))), .unset, .unset, .unset, .unset, .unset, .unset] [(.int (1 : Int32))])) _
        exact kk
  have pre29 : ∀ tgt, Steps p.tables e below (T25.setTop (mkF m 62 #[.val (.long q1), .second, .val (.long q2), .second, .val (.long q3), .second, .val (.long q4), .second, .val (.int p5), .val (.ref b2), .val (.ref b10), .val (.int (bI (¬ (q2 < q2)))), .val (.int (bI ((q2 = (-9223372036854775808 : Int64)) ∨ (¬ (¬ ((q2 - (1 : Int64)) < q2)))))), .unset, .unset, .unset, .unset, .unset] [(.long q4), (.long q3)])) tgt → Steps p.tables e below (s₁.setTop (entryFrame m #[(.long q1), (.long q2), (.long q3), (.long q4), (.int p5)] maxLocals)) tgt := by
    intro tgt kk
    refine pre25 tgt ?_
    refine XS.istore X25.here hx rfl (hb hby at_56) rfl (l' := #[.val (.long q1), .second, .val (.long q2), .second, .val (.long q3), .second, .val (.long q4), .second, .val (.int p5), .val (.ref b2), .val (.ref b10), .val (.int (bI (¬ (q2 < q2)))), .val (.int (bI ((q2 = (-9223372036854775808 : Int64)) ∨ (¬ (¬ ((q2 - (1 : Int64)) < q2)))))), .unset, .unset, .unset, .unset, .unset]) rfl ?_
    show Steps p.tables e below (T25.setTop (mkF m 58 #[.val (.long q1), .second, .val (.long q2), .second, .val (.long q3), .second, .val (.long q4), .second, .val (.int p5), .val (.ref b2), .val (.ref b10), .val (.int (bI (¬ (q2 < q2)))), .val (.int (bI ((q2 = (-9223372036854775808 : Int64)) ∨ (¬ (¬ ((q2 - (1 : Int64)) < q2)))))), .unset, .unset, .unset, .unset, .unset] [])) _
    refine XS.lload X25.here hx rfl (hb hby at_58) rfl ?_
    show Steps p.tables e below (T25.setTop (mkF m 60 #[.val (.long q1), .second, .val (.long q2), .second, .val (.long q3), .second, .val (.long q4), .second, .val (.int p5), .val (.ref b2), .val (.ref b10), .val (.int (bI (¬ (q2 < q2)))), .val (.int (bI ((q2 = (-9223372036854775808 : Int64)) ∨ (¬ (¬ ((q2 - (1 : Int64)) < q2)))))), .unset, .unset, .unset, .unset, .unset] [(.long q3)])) _
    refine XS.lload X25.here hx rfl (hb hby at_60) rfl ?_
    show Steps p.tables e below (T25.setTop (mkF m 62 #[.val (.long q1), .second, .val (.long q2), .second, .val (.long q3), .second, .val (.long q4), .second, .val (.int p5), .val (.ref b2), .val (.ref b10), .val (.int (bI (¬ (q2 < q2)))), .val (.int (bI ((q2 = (-9223372036854775808 : Int64)) ∨ (¬ (¬ ((q2 - (1 : Int64)) < q2)))))), .unset, .unset, .unset, .unset, .unset] [(.long q4), (.long q3)])) _
    exact kk
  obtain ⟨_, _, ⟨T30, L30, k30, n30⟩, -, X30, ⟨Lc30, hQ30, l30, y30, z30⟩, st30⟩ := Jvm.LawKit.callS X25 hx (y := (⟨"java/lang/Math", "min", "(JJ)J"⟩ : MethodName)) hown (mvT hZ (hw _ (List.mem_of_getElem? (i := 27) rfl))) (mvT hZ (hw _ (List.mem_of_getElem? (i := 28) rfl))) (mvT hZ (hw _ (List.mem_of_getElem? (i := 29) rfl))) (mvT hZ (hw _ (List.mem_of_getElem? (i := 30) rfl))) (by decide) (backOf (W := 0) (rmMin l Z a0 hw [] q3 q4 T15.heap n0 Zs16) hZ (hw _ (List.mem_of_getElem? (i := 30) rfl)) (hw _ (List.mem_of_getElem? (i := 29) rfl)) (by decide) (by decide)) (g := (mkF m 62 #[.val (.long q1), .second, .val (.long q2), .second, .val (.long q3), .second, .val (.long q4), .second, .val (.int p5), .val (.ref b2), .val (.ref b10), .val (.int (bI (¬ (q2 < q2)))), .val (.int (bI ((q2 = (-9223372036854775808 : Int64)) ∨ (¬ (¬ ((q2 - (1 : Int64)) < q2)))))), .unset, .unset, .unset, .unset, .unset] [(.long q4), (.long q3)])) rfl (by rw [hml]; rfl) (argsL := [(.long q3), (.long q4)]) (rest := []) (lenOf pd__JJ_J rfl) rfl (by show 2 * 0 + _ ≤ _; exact Nat.le_of_eq rfl) (hb hby at_62) (fun _ _ => ⟨rfl, e25, (by decide : 2 + 0 ≤ _), (by decide : 4 + 0 ≤ _)⟩)
  dsimp only [Pt.U, Pt.locs, Pt.cells, Pt.slots] at X30 l30 y30 z30 st30 hQ30
  subst l30 y30 z30
  obtain ⟨rfl, N30q, hh30⟩ := hQ30
  have N30 := Fr.app N25 N30q
  have pre31 : ∀ tgt, Steps p.tables e below (T30.setTop (mkF m 71 #[.val (.long q1), .second, .val (.long q2), .second, .val (.long q3), .second, .val (.long q4), .second, .val (.int p5), .val (.ref b2), .val (.ref b10), .val (.int (bI (¬ (q2 < q2)))), .val (.int (bI ((q2 = (-9223372036854775808 : Int64)) ∨ (¬ (¬ ((q2 - (1 : Int64)) < q2)))))), .val (.long (mn64 q3 q4)), .second, .unset, .unset, .unset] [(.long q4), (.long q3)])) tgt → Steps p.tables e below (s₁.setTop (entryFrame m #[(.long q1), (.long q2), (.long q3), (.long q4), (.int p5)] maxLocals)) tgt := by
    intro tgt kk
    refine pre29 tgt ?_
    refine st30 _ ?_
    show Steps p.tables e below (T30.setTop (mkF m 65 #[.val (.long q1), .second, .val (.long q2), .second, .val (.long q3), .second, .val (.long q4), .second, .val (.int p5), .val (.ref b2), .val (.ref b10), .val (.int (bI (¬ (q2 < q2)))), .val (.int (bI ((q2 = (-9223372036854775808 : Int64)) ∨ (¬ (¬ ((q2 - (1 : Int64)) < q2)))))), .unset, .unset, .unset, .unset, .unset] [(.long (mn64 q3 q4))])) _
    refine XS.lstore X30.here hx rfl (hb hby at_65) rfl (l' := #[.val (.long q1), .second, .val (.long q2), .second, .val (.long q3), .second, .val (.long q4), .second, .val (.int p5), .val (.ref b2), .val (.ref b10), .val (.int (bI (¬ (q2 < q2)))), .val (.int (bI ((q2 = (-9223372036854775808 : Int64)) ∨ (¬ (¬ ((q2 - (1 : Int64)) < q2)))))), .val (.long (mn64 q3 q4)), .second, .unset, .unset, .unset]) rfl ?_
    show Steps p.tables e below (T30.setTop (mkF m 67 #[.val (.long q1), .second, .val (.long q2), .second, .val (.long q3), .second, .val (.long q4), .second, .val (.int p5), .val (.ref b2), .val (.ref b10), .val (.int (bI (¬ (q2 < q2)))), .val (.int (bI ((q2 = (-9223372036854775808 : Int64)) ∨ (¬ (¬ ((q2 - (1 : Int64)) < q2)))))), .val (.long (mn64 q3 q4)), .second, .unset, .unset, .unset] [])) _
    refine XS.lload X30.here hx rfl (hb hby at_67) rfl ?_
    show Steps p.tables e below (T30.setTop (mkF m 69 #[.val (.long q1), .second, .val (.long q2), .second, .val (.long q3), .second, .val (.long q4), .second, .val (.int p5), .val (.ref b2), .val (.ref b10), .val (.int (bI (¬ (q2 < q2)))), .val (.int (bI ((q2 = (-9223372036854775808 : Int64)) ∨ (¬ (¬ ((q2 - (1 : Int64)) < q2)))))), .val (.long (mn64 q3 q4)), .second, .unset, .unset, .unset] [(.long q3)])) _
    refine XS.lload X30.here hx rfl (hb hby at_69) rfl ?_
    show Steps p.tables e below (T30.setTop (mkF m 71 #[.val (.long q1), .second, .val (.long q2), .second, .val (.long q3), .second, .val (.long q4), .second, .val (.int p5), .val (.ref b2), .val (.ref b10), .val (.int (bI (¬ (q2 < q2)))), .val (.int (bI ((q2 = (-9223372036854775808 : Int64)) ∨ (¬ (¬ ((q2 - (1 : Int64)) < q2)))))), .val (.long (mn64 q3 q4)), .second, .unset, .unset, .unset] [(.long q4), (.long q3)])) _
    exact kk
  obtain ⟨_, _, ⟨T32, L32, k32, n32⟩, -, X32, ⟨Lc32, hQ32, l32, y32, z32⟩, st32⟩ := Jvm.LawKit.callS X30 hx (y := (⟨"java/lang/Math", "max", "(JJ)J"⟩ : MethodName)) hown (mvT hZ (hw _ (List.mem_of_getElem? (i := 31) rfl))) (mvT hZ (hw _ (List.mem_of_getElem? (i := 32) rfl))) (mvT hZ (hw _ (List.mem_of_getElem? (i := 29) rfl))) (mvT hZ (hw _ (List.mem_of_getElem? (i := 33) rfl))) (by decide) (backOf (W := 0) (rmMax l Z a0 hw [] q3 q4 T15.heap n0 Zs16) hZ (hw _ (List.mem_of_getElem? (i := 33) rfl)) (hw _ (List.mem_of_getElem? (i := 29) rfl)) (by decide) (by decide)) (g := (mkF m 71 #[.val (.long q1), .second, .val (.long q2), .second, .val (.long q3), .second, .val (.long q4), .second, .val (.int p5), .val (.ref b2), .val (.ref b10), .val (.int (bI (¬ (q2 < q2)))), .val (.int (bI ((q2 = (-9223372036854775808 : Int64)) ∨ (¬ (¬ ((q2 - (1 : Int64)) < q2)))))), .val (.long (mn64 q3 q4)), .second, .unset, .unset, .unset] [(.long q4), (.long q3)])) rfl (by rw [hml]; rfl) (argsL := [(.long q3), (.long q4)]) (rest := []) (lenOf pd__JJ_J rfl) rfl (by show 2 * 0 + _ ≤ _; exact Nat.le_of_eq rfl) (hb hby at_71) (fun _ _ => ⟨rfl, hh30, (by decide : 2 + 0 ≤ _), (by decide : 4 + 0 ≤ _)⟩)
  dsimp only [Pt.U, Pt.locs, Pt.cells, Pt.slots] at X32 l32 y32 z32 st32 hQ32
  subst l32 y32 z32
  obtain ⟨rfl, N32q, hh32⟩ := hQ32
  have N32 := Fr.app N30 N32q
  have pre33 : ∀ tgt, Steps p.tables e below (T32.setTop (mkF m 80 #[.val (.long q1), .second, .val (.long q2), .second, .val (.long q3), .second, .val (.long q4), .second, .val (.int p5), .val (.ref b2), .val (.ref b10), .val (.int (bI (¬ (q2 < q2)))), .val (.int (bI ((q2 = (-9223372036854775808 : Int64)) ∨ (¬ (¬ ((q2 - (1 : Int64)) < q2)))))), .val (.long (mn64 q3 q4)), .second, .val (.long (mx64 q3 q4)), .second, .unset] [(.long (mn64 q3 q4)), (.ref b10)])) tgt → Steps p.tables e below (s₁.setTop (entryFrame m #[(.long q1), (.long q2), (.long q3), (.long q4), (.int p5)] maxLocals)) tgt := by
    intro tgt kk
    refine pre31 tgt ?_
    refine st32 _ ?_
    show Steps p.tables e below (T32.setTop (mkF m 74 #[.val (.long q1), .second, .val (.long q2), .second, .val (.long q3), .second, .val (.long q4), .second, .val (.int p5), .val (.ref b2), .val (.ref b10), .val (.int (bI (¬ (q2 < q2)))), .val (.int (bI ((q2 = (-9223372036854775808 : Int64)) ∨ (¬ (¬ ((q2 - (1 : Int64)) < q2)))))), .val (.long (mn64 q3 q4)), .second, .unset, .unset, .unset] [(.long (mx64 q3 q4))])) _
    refine XS.lstore X32.here hx rfl (hb hby at_74) rfl (l' := #[.val (.long q1), .second, .val (.long q2), .second, .val (.long q3), .second, .val (.long q4), .second, .val (.int p5), .val (.ref b2), .val (.ref b10), .val (.int (bI (¬ (q2 < q2)))), .val (.int (bI ((q2 = (-9223372036854775808 : Int64)) ∨ (¬ (¬ ((q2 - (1 : Int64)) < q2)))))), .val (.long (mn64 q3 q4)), .second, .val (.long (mx64 q3 q4)), .second, .unset]) rfl ?_
    show Steps p.tables e below (T32.setTop (mkF m 76 #[.val (.long q1), .second, .val (.long q2), .second, .val (.long q3), .second, .val (.long q4), .second, .val (.int p5), .val (.ref b2), .val (.ref b10), .val (.int (bI (¬ (q2 < q2)))), .val (.int (bI ((q2 = (-9223372036854775808 : Int64)) ∨ (¬ (¬ ((q2 - (1 : Int64)) < q2)))))), .val (.long (mn64 q3 q4)), .second, .val (.long (mx64 q3 q4)), .second, .unset] [])) _
    refine XS.aload X32.here hx rfl (hb hby at_76) rfl rfl ?_
    show Steps p.tables e below (T32.setTop (mkF m 78 #[.val (.long q1), .second, .val (.long q2), .second, .val (.long q3), .second, .val (.long q4), .second, .val (.int p5), .val (.ref b2), .val (.ref b10), .val (.int (bI (¬ (q2 < q2)))), .val (.int (bI ((q2 = (-9223372036854775808 : Int64)) ∨ (¬ (¬ ((q2 - (1 : Int64)) < q2)))))), .val (.long (mn64 q3 q4)), .second, .val (.long (mx64 q3 q4)), .second, .unset] [(.ref b10)])) _
    refine XS.lload X32.here hx rfl (hb hby at_78) rfl ?_
    show Steps p.tables e below (T32.setTop (mkF m 80 #[.val (.long q1), .second, .val (.long q2), .second, .val (.long q3), .second, .val (.long q4), .second, .val (.int p5), .val (.ref b2), .val (.ref b10), .val (.int (bI (¬ (q2 < q2)))), .val (.int (bI ((q2 = (-9223372036854775808 : Int64)) ∨ (¬ (¬ ((q2 - (1 : Int64)) < q2)))))), .val (.long (mn64 q3 q4)), .second, .val (.long (mx64 q3 q4)), .second, .unset] [(.long (mn64 q3 q4)), (.ref b10)])) _
    exact kk
  obtain ⟨cq34, kq34, q34a, q34b, q34c⟩ := isOf hZ hh32 E_b10
  obtain ⟨_, _, ⟨T34, L34, k34, n34⟩, -, X34, ⟨Lc34, hQ34, l34, y34, z34⟩, st34⟩ := X32.virtualBack hx (y := (⟨"com/example/message_ledger/messageledger/group/CommittedOffset", "isExpired", "(J)Z"⟩ : MethodName)) (z := (⟨"com/example/message_ledger/messageledger/group/CommittedOffset", "isExpired", "(J)Z"⟩ : MethodName)) hown (mvT hZ (hw _ (List.mem_of_getElem? (i := 21) rfl))) (mvT hZ (hw _ (List.mem_of_getElem? (i := 22) rfl))) (notFace_of_selects (args := #[]) (mvT hZ (hw _ (List.mem_of_getElem? (i := 24) rfl)))) (mvT hZ (hw _ (List.mem_of_getElem? (i := 24) rfl))) (mvT hZ (hw _ (List.mem_of_getElem? (i := 23) rfl))) (by decide) (backOf (W := 0) (rmExp l Z a0 hw [] b10 (q2) ((mn64 q3 q4)) T15.heap n0 Zs16 F_expiresAt_b10) hZ (hw _ (List.mem_of_getElem? (i := 25) rfl)) (hw _ (List.mem_of_getElem? (i := 3) rfl)) (by decide) (by decide)) q34a q34c (g := (mkF m 80 #[.val (.long q1), .second, .val (.long q2), .second, .val (.long q3), .second, .val (.long q4), .second, .val (.int p5), .val (.ref b2), .val (.ref b10), .val (.int (bI (¬ (q2 < q2)))), .val (.int (bI ((q2 = (-9223372036854775808 : Int64)) ∨ (¬ (¬ ((q2 - (1 : Int64)) < q2)))))), .val (.long (mn64 q3 q4)), .second, .val (.long (mx64 q3 q4)), .second, .unset] [(.long (mn64 q3 q4)), (.ref b10)])) rfl (by rw [hml]; rfl) (Steps.refl _) (argsL := [(.long (mn64 q3 q4))]) (rest := []) (lenOf pd__J_Z rfl) rfl (by show 2 * 0 + _ ≤ _; exact Nat.le_of_eq rfl) (hb hby at_80) (fun _ _ => ⟨rfl, hh32, (by decide : 2 + 0 ≤ _), (by decide : 4 + 0 ≤ _)⟩)
  dsimp only [Pt.U, Pt.locs, Pt.cells, Pt.slots] at X34 l34 y34 z34 st34 hQ34
  subst l34 y34 z34
  obtain ⟨rfl, N34q, hh34⟩ := hQ34
  have N34 := Fr.app N32 N34q
  have pre35 : ∀ tgt, Steps p.tables e below (T34.setTop (mkF m 83 #[.val (.long q1), .second, .val (.long q2), .second, .val (.long q3), .second, .val (.long q4), .second, .val (.int p5), .val (.ref b2), .val (.ref b10), .val (.int (bI (¬ (q2 < q2)))), .val (.int (bI ((q2 = (-9223372036854775808 : Int64)) ∨ (¬ (¬ ((q2 - (1 : Int64)) < q2)))))), .val (.long (mn64 q3 q4)), .second, .val (.long (mx64 q3 q4)), .second, .unset] [(.int (bI (¬ ((mn64 q3 q4) < q2))))])) tgt → Steps p.tables e below (s₁.setTop (entryFrame m #[(.long q1), (.long q2), (.long q3), (.long q4), (.int p5)] maxLocals)) tgt := by
    intro tgt kk
    refine pre33 tgt ?_
    refine st34.trans ?_
    show Steps p.tables e below (T34.setTop (mkF m 83 #[.val (.long q1), .second, .val (.long q2), .second, .val (.long q3), .second, .val (.long q4), .second, .val (.int p5), .val (.ref b2), .val (.ref b10), .val (.int (bI (¬ (q2 < q2)))), .val (.int (bI ((q2 = (-9223372036854775808 : Int64)) ∨ (¬ (¬ ((q2 - (1 : Int64)) < q2)))))), .val (.long (mn64 q3 q4)), .second, .val (.long (mx64 q3 q4)), .second, .unset] [(.int (bI (¬ ((mn64 q3 q4) < q2))))])) _
    exact kk
  obtain ⟨T41, lo41, X41, N41, e41, pre41⟩ : ∃ (T' : State) (lo : List Loc), Stand p l e room_1 s m #[(.long q1), (.long q2), (.long q3), (.long q4), (.int p5)] below meth c T' lo 2 4 ∧ Fr n0 lo ∧ T'.heap = T15.heap ∧ ∀ tgt, Steps p.tables e below (T'.setTop (mkF m 101 #[.val (.long q1), .second, .val (.long q2), .second, .val (.long q3), .second, .val (.long q4), .second, .val (.int p5), .val (.ref b2), .val (.ref b10), .val (.int (bI (¬ (q2 < q2)))), .val (.int (bI ((q2 = (-9223372036854775808 : Int64)) ∨ (¬ (¬ ((q2 - (1 : Int64)) < q2)))))), .val (.long (mn64 q3 q4)), .second, .val (.long (mx64 q3 q4)), .second, .unset] [(.int (bI ((¬ ((mn64 q3 q4) < q2)) → (¬ ((mx64 q3 q4) < q2)))))])) tgt → Steps p.tables e below (s₁.setTop (entryFrame m #[(.long q1), (.long q2), (.long q3), (.long q4), (.int p5)] maxLocals)) tgt := by
    by_cases hc83_36 : ¬ ((mn64 q3 q4) < q2)
    · skip
      have pre37 : ∀ tgt, Steps p.tables e below (T34.setTop (mkF m 90 #[.val (.long q1), .second, .val (.long q2), .second, .val (.long q3), .second, .val (.long q4), .second, .val (.int p5), .val (.ref b2), .val (.ref b10), .val (.int (bI (¬ (q2 < q2)))), .val (.int (bI ((q2 = (-9223372036854775808 : Int64)) ∨ (¬ (¬ ((q2 - (1 : Int64)) < q2)))))), .val (.long (mn64 q3 q4)), .second, .val (.long (mx64 q3 q4)), .second, .unset] [(.long (mx64 q3 q4)), (.ref b10)])) tgt → Steps p.tables e below (s₁.setTop (entryFrame m #[(.long q1), (.long q2), (.long q3), (.long q4), (.int p5)] maxLocals)) tgt := by
        intro tgt kk
        refine pre35 tgt ?_
        refine XS.ifNo X34.here hx rfl (hb hby at_83) rfl (bB_eq_f hc83_36) ?_
        show Steps p.tables e below (T34.setTop (mkF m 86 #[.val (.long q1), .second, .val (.long q2), .second, .val (.long q3), .second, .val (.long q4), .second, .val (.int p5), .val (.ref b2), .val (.ref b10), .val (.int (bI (¬ (q2 < q2)))), .val (.int (bI ((q2 = (-9223372036854775808 : Int64)) ∨ (¬ (¬ ((q2 - (1 : Int64)) < q2)))))), .val (.long (mn64 q3 q4)), .second, .val (.long (mx64 q3 q4)), .second, .unset] [])) _
        refine XS.aload X34.here hx rfl (hb hby at_86) rfl rfl ?_
        show Steps p.tables e below (T34.setTop (mkF m 88 #[.val (.long q1), .second, .val (.long q2), .second, .val (.long q3), .second, .val (.long q4), .second, .val (.int p5), .val (.ref b2), .val (.ref b10), .val (.int (bI (¬ (q2 < q2)))), .val (.int (bI ((q2 = (-9223372036854775808 : Int64)) ∨ (¬ (¬ ((q2 - (1 : Int64)) < q2)))))), .val (.long (mn64 q3 q4)), .second, .val (.long (mx64 q3 q4)), .second, .unset] [(.ref b10)])) _
        refine XS.lload X34.here hx rfl (hb hby at_88) rfl ?_
        show Steps p.tables e below (T34.setTop (mkF m 90 #[.val (.long q1), .second, .val (.long q2), .second, .val (.long q3), .second, .val (.long q4), .second, .val (.int p5), .val (.ref b2), .val (.ref b10), .val (.int (bI (¬ (q2 < q2)))), .val (.int (bI ((q2 = (-9223372036854775808 : Int64)) ∨ (¬ (¬ ((q2 - (1 : Int64)) < q2)))))), .val (.long (mn64 q3 q4)), .second, .val (.long (mx64 q3 q4)), .second, .unset] [(.long (mx64 q3 q4)), (.ref b10)])) _
        exact kk
      obtain ⟨cq38, kq38, q38a, q38b, q38c⟩ := isOf hZ hh34 E_b10
      obtain ⟨_, _, ⟨T38, L38, k38, n38⟩, -, X38, ⟨Lc38, hQ38, l38, y38, z38⟩, st38⟩ := X34.virtualBack hx (y := (⟨"com/example/message_ledger/messageledger/group/CommittedOffset", "isExpired", "(J)Z"⟩ : MethodName)) (z := (⟨"com/example/message_ledger/messageledger/group/CommittedOffset", "isExpired", "(J)Z"⟩ : MethodName)) hown (mvT hZ (hw _ (List.mem_of_getElem? (i := 21) rfl))) (mvT hZ (hw _ (List.mem_of_getElem? (i := 22) rfl))) (notFace_of_selects (args := #[]) (mvT hZ (hw _ (List.mem_of_getElem? (i := 24) rfl)))) (mvT hZ (hw _ (List.mem_of_getElem? (i := 24) rfl))) (mvT hZ (hw _ (List.mem_of_getElem? (i := 23) rfl))) (by decide) (backOf (W := 0) (rmExp l Z a0 hw [] b10 (q2) ((mx64 q3 q4)) T15.heap n0 Zs16 F_expiresAt_b10) hZ (hw _ (List.mem_of_getElem? (i := 25) rfl)) (hw _ (List.mem_of_getElem? (i := 3) rfl)) (by decide) (by decide)) q38a q38c (g := (mkF m 90 #[.val (.long q1), .second, .val (.long q2), .second, .val (.long q3), .second, .val (.long q4), .second, .val (.int p5), .val (.ref b2), .val (.ref b10), .val (.int (bI (¬ (q2 < q2)))), .val (.int (bI ((q2 = (-9223372036854775808 : Int64)) ∨ (¬ (¬ ((q2 - (1 : Int64)) < q2)))))), .val (.long (mn64 q3 q4)), .second, .val (.long (mx64 q3 q4)), .second, .unset] [(.long (mx64 q3 q4)), (.ref b10)])) rfl (by rw [hml]; rfl) (Steps.refl _) (argsL := [(.long (mx64 q3 q4))]) (rest := []) (lenOf pd__J_Z rfl) rfl (by show 2 * 0 + _ ≤ _; exact Nat.le_of_eq rfl) (hb hby at_90) (fun _ _ => ⟨rfl, hh34, (by decide : 2 + 0 ≤ _), (by decide : 4 + 0 ≤ _)⟩)
      dsimp only [Pt.U, Pt.locs, Pt.cells, Pt.slots] at X38 l38 y38 z38 st38 hQ38
      subst l38 y38 z38
      obtain ⟨rfl, N38q, hh38⟩ := hQ38
      have N38 := Fr.app N34 N38q
      have pre39 : ∀ tgt, Steps p.tables e below (T38.setTop (mkF m 93 #[.val (.long q1), .second, .val (.long q2), .second, .val (.long q3), .second, .val (.long q4), .second, .val (.int p5), .val (.ref b2), .val (.ref b10), .val (.int (bI (¬ (q2 < q2)))), .val (.int (bI ((q2 = (-9223372036854775808 : Int64)) ∨ (¬ (¬ ((q2 - (1 : Int64)) < q2)))))), .val (.long (mn64 q3 q4)), .second, .val (.long (mx64 q3 q4)), .second, .unset] [(.int (bI (¬ ((mx64 q3 q4) < q2))))])) tgt → Steps p.tables e below (s₁.setTop (entryFrame m #[(.long q1), (.long q2), (.long q3), (.long q4), (.int p5)] maxLocals)) tgt := by
        intro tgt kk
        refine pre37 tgt ?_
        refine st38.trans ?_
        show Steps p.tables e below (T38.setTop (mkF m 93 #[.val (.long q1), .second, .val (.long q2), .second, .val (.long q3), .second, .val (.long q4), .second, .val (.int p5), .val (.ref b2), .val (.ref b10), .val (.int (bI (¬ (q2 < q2)))), .val (.int (bI ((q2 = (-9223372036854775808 : Int64)) ∨ (¬ (¬ ((q2 - (1 : Int64)) < q2)))))), .val (.long (mn64 q3 q4)), .second, .val (.long (mx64 q3 q4)), .second, .unset] [(.int (bI (¬ ((mx64 q3 q4) < q2))))])) _
        exact kk
      by_cases hc93_40 : ¬ ((mx64 q3 q4) < q2)
      · skip
        refine ⟨T38, _, X38, N38, hh38, fun tgt kk => ?_⟩
        have kq42 : ((.int (bI ((¬ ((mn64 q3 q4) < q2)) → (¬ ((mx64 q3 q4) < q2))))) : Value) = (.int (1 : Int32)) := ((congrArg Value.int (bI_iff (imp_iff_h hc83_36))).trans (congrArg Value.int (bI_t hc93_40)))
        rw [kq42] at kk
        refine pre39 tgt ?_
        refine XS.ifNo X38.here hx rfl (hb hby at_93) rfl (bB_eq_f hc93_40) ?_
        show Steps p.tables e below (T38.setTop (mkF m 96 #[.val (.long q1), .second, .val (.long q2), .second, .val (.long q3), .second, .val (.long q4), .second, .val (.int p5), .val (.ref b2), .val (.ref b10), .val (.int (bI (¬ (q2 < q2)))), .val (.int (bI ((q2 = (-9223372036854775808 : Int64)) ∨ (¬ (¬ ((q2 - (1 : Int64)) < q2)))))), .val (.long (mn64 q3 q4)), .second, .val (.long (mx64 q3 q4)), .second, .unset] [])) _
        refine XS.iconst X38.here hx rfl (hb hby at_96) ?_
        show Steps p.tables e below (T38.setTop (mkF m 97 #[.val (.long q1), .second, .val (.long q2), .second, .val (.long q3), .second, .val (.long q4), .second, .val (.int p5), .val (.ref b2), .val (.ref b10), .val (.int (bI (¬ (q2 < q2)))), .val (.int (bI ((q2 = (-9223372036854775808 : Int64)) ∨ (¬ (¬ ((q2 - (1 : Int64)) < q2)))))), .val (.long (mn64 q3 q4)), .second, .val (.long (mx64 q3 q4)), .second, .unset] [(.int (1 : Int32))])) _
        refine XS.goto X38.here hx rfl (pc0 := 97) (pc' := 101) rfl (hb hby at_97) (by decide) (by decide) ?_
        show Steps p.tables e below (T38.setTop (mkF m 101 #[.val (.long q1), .second, .val (.long q2), .second, .val (.long q3), .second, .val (.long q4), .second, .val (.int p5), .val (.ref b2), .val (.ref b10), .val (.int (bI (¬ (q2 < q2)))), .val (.int (bI ((q2 = (-9223372036854775808 : Int64)) ∨ (¬ (¬ ((q2 - (1 : Int64)) < q2)))))), .val (.long (mn64 q3 q4)), .second, .val (.long (mx64 q3 q4)), .second, .unset] [(.int (1 : Int32))])) _
        exact kk
      · skip
        refine ⟨T38, _, X38, N38, hh38, fun tgt kk => ?_⟩
        have kq43 : ((.int (bI ((¬ ((mn64 q3 q4) < q2)) → (¬ ((mx64 q3 q4) < q2))))) : Value) = (.int (0 : Int32)) := ((congrArg Value.int (bI_iff (imp_iff_h hc83_36))).trans (congrArg Value.int (bI_f hc93_40)))
        rw [kq43] at kk
        refine pre39 tgt ?_
        refine XS.ifYes X38.here hx rfl (pc0 := 93) (pc' := 100) rfl (hb hby at_93) rfl (bB_eq_t hc93_40) (by decide) (by decide) ?_
        show Steps p.tables e below (T38.setTop (mkF m 100 #[.val (.long q1), .second, .val (.long q2), .second, .val (.long q3), .second, .val (.long q4), .second, .val (.int p5), .val (.ref b2), .val (.ref b10), .val (.int (bI (¬ (q2 < q2)))), .val (.int (bI ((q2 = (-9223372036854775808 : Int64)) ∨ (¬ (¬ ((q2 - (1 : Int64)) < q2)))))), .val (.long (mn64 q3 q4)), .second, .val (.long (mx64 q3 q4)), .second, .unset] [])) _
        refine XS.iconst X38.here hx rfl (hb hby at_100) ?_
        show Steps p.tables e below (T38.setTop (mkF m 101 #[.val (.long q1), .second, .val (.long q2), .second, .val (.long q3), .second, .val (.long q4), .second, .val (.int p5), .val (.ref b2), .val (.ref b10), .val (.int (bI (¬ (q2 < q2)))), .val (.int (bI ((q2 = (-9223372036854775808 : Int64)) ∨ (¬ (¬ ((q2 - (1 : Int64)) < q2)))))), .val (.long (mn64 q3 q4)), .second, .val (.long (mx64 q3 q4)), .second, .unset] [(.int (0 : Int32))])) _
        exact kk
    · skip
      refine ⟨T34, _, X34, N34, hh34, fun tgt kk => ?_⟩
      have kq44 : ((.int (bI ((¬ ((mn64 q3 q4) < q2)) → (¬ ((mx64 q3 q4) < q2))))) : Value) = (.int (1 : Int32)) := (congrArg Value.int (bI_t (fun q => absurd q hc83_36)))
      rw [kq44] at kk
      refine pre35 tgt ?_
      refine XS.ifYes X34.here hx rfl (pc0 := 83) (pc' := 96) rfl (hb hby at_83) rfl (bB_eq_t hc83_36) (by decide) (by decide) ?_
      show Steps p.tables e below (T34.setTop (mkF m 96 #[.val (.long q1), .second, .val (.long q2), .second, .val (.long q3), .second, .val (.long q4), .second, .val (.int p5), .val (.ref b2), .val (.ref b10), .val (.int (bI (¬ (q2 < q2)))), .val (.int (bI ((q2 = (-9223372036854775808 : Int64)) ∨ (¬ (¬ ((q2 - (1 : Int64)) < q2)))))), .val (.long (mn64 q3 q4)), .second, .val (.long (mx64 q3 q4)), .second, .unset] [])) _
      refine XS.iconst X34.here hx rfl (hb hby at_96) ?_
      show Steps p.tables e below (T34.setTop (mkF m 97 #[.val (.long q1), .second, .val (.long q2), .second, .val (.long q3), .second, .val (.long q4), .second, .val (.int p5), .val (.ref b2), .val (.ref b10), .val (.int (bI (¬ (q2 < q2)))), .val (.int (bI ((q2 = (-9223372036854775808 : Int64)) ∨ (¬ (¬ ((q2 - (1 : Int64)) < q2)))))), .val (.long (mn64 q3 q4)), .second, .val (.long (mx64 q3 q4)), .second, .unset] [(.int (1 : Int32))])) _
      refine XS.goto X34.here hx rfl (pc0 := 97) (pc' := 101) rfl (hb hby at_97) (by decide) (by decide) ?_
      show Steps p.tables e below (T34.setTop (mkF m 101 #[.val (.long q1), .second, .val (.long q2), .second, .val (.long q3), .second, .val (.long q4), .second, .val (.int p5), .val (.ref b2), .val (.ref b10), .val (.int (bI (¬ (q2 < q2)))), .val (.int (bI ((q2 = (-9223372036854775808 : Int64)) ∨ (¬ (¬ ((q2 - (1 : Int64)) < q2)))))), .val (.long (mn64 q3 q4)), .second, .val (.long (mx64 q3 q4)), .second, .unset] [(.int (1 : Int32))])) _
      exact kk
  have pre45 : ∀ tgt, Steps p.tables e below (T41.setTop (mkF m 105 #[.val (.long q1), .second, .val (.long q2), .second, .val (.long q3), .second, .val (.long q4), .second, .val (.int p5), .val (.ref b2), .val (.ref b10), .val (.int (bI (¬ (q2 < q2)))), .val (.int (bI ((q2 = (-9223372036854775808 : Int64)) ∨ (¬ (¬ ((q2 - (1 : Int64)) < q2)))))), .val (.long (mn64 q3 q4)), .second, .val (.long (mx64 q3 q4)), .second, .val (.int (bI ((¬ ((mn64 q3 q4) < q2)) → (¬ ((mx64 q3 q4) < q2)))))] [(.int (bI (¬ (q2 < q2))))])) tgt → Steps p.tables e below (s₁.setTop (entryFrame m #[(.long q1), (.long q2), (.long q3), (.long q4), (.int p5)] maxLocals)) tgt := by
    intro tgt kk
    refine pre41 tgt ?_
    refine XS.istore X41.here hx rfl (hb hby at_101) rfl (l' := #[.val (.long q1), .second, .val (.long q2), .second, .val (.long q3), .second, .val (.long q4), .second, .val (.int p5), .val (.ref b2), .val (.ref b10), .val (.int (bI (¬ (q2 < q2)))), .val (.int (bI ((q2 = (-9223372036854775808 : Int64)) ∨ (¬ (¬ ((q2 - (1 : Int64)) < q2)))))), .val (.long (mn64 q3 q4)), .second, .val (.long (mx64 q3 q4)), .second, .val (.int (bI ((¬ ((mn64 q3 q4) < q2)) → (¬ ((mx64 q3 q4) < q2)))))]) rfl ?_
    show Steps p.tables e below (T41.setTop (mkF m 103 #[.val (.long q1), .second, .val (.long q2), .second, .val (.long q3), .second, .val (.long q4), .second, .val (.int p5), .val (.ref b2), .val (.ref b10), .val (.int (bI (¬ (q2 < q2)))), .val (.int (bI ((q2 = (-9223372036854775808 : Int64)) ∨ (¬ (¬ ((q2 - (1 : Int64)) < q2)))))), .val (.long (mn64 q3 q4)), .second, .val (.long (mx64 q3 q4)), .second, .val (.int (bI ((¬ ((mn64 q3 q4) < q2)) → (¬ ((mx64 q3 q4) < q2)))))] [])) _
    refine XS.iload X41.here hx rfl (hb hby at_103) rfl ?_
    show Steps p.tables e below (T41.setTop (mkF m 105 #[.val (.long q1), .second, .val (.long q2), .second, .val (.long q3), .second, .val (.long q4), .second, .val (.int p5), .val (.ref b2), .val (.ref b10), .val (.int (bI (¬ (q2 < q2)))), .val (.int (bI ((q2 = (-9223372036854775808 : Int64)) ∨ (¬ (¬ ((q2 - (1 : Int64)) < q2)))))), .val (.long (mn64 q3 q4)), .second, .val (.long (mx64 q3 q4)), .second, .val (.int (bI ((¬ ((mn64 q3 q4) < q2)) → (¬ ((mx64 q3 q4) < q2)))))] [(.int (bI (¬ (q2 < q2))))])) _
    exact kk
  obtain ⟨T51, lo51, X51, N51, e51, pre51⟩ : ∃ (T' : State) (lo : List Loc), Stand p l e room_1 s m #[(.long q1), (.long q2), (.long q3), (.long q4), (.int p5)] below meth c T' lo 2 4 ∧ Fr n0 lo ∧ T'.heap = T15.heap ∧ ∀ tgt, Steps p.tables e below (T'.setTop (mkF m 123 #[.val (.long q1), .second, .val (.long q2), .second, .val (.long q3), .second, .val (.long q4), .second, .val (.int p5), .val (.ref b2), .val (.ref b10), .val (.int (bI (¬ (q2 < q2)))), .val (.int (bI ((q2 = (-9223372036854775808 : Int64)) ∨ (¬ (¬ ((q2 - (1 : Int64)) < q2)))))), .val (.long (mn64 q3 q4)), .second, .val (.long (mx64 q3 q4)), .second, .val (.int (bI ((¬ ((mn64 q3 q4) < q2)) → (¬ ((mx64 q3 q4) < q2)))))] [(.int (bI ((¬ (q2 < q2)) ∧ (((q2 = (-9223372036854775808 : Int64)) ∨ (¬ (¬ ((q2 - (1 : Int64)) < q2)))) ∧ ((¬ ((mn64 q3 q4) < q2)) → (¬ ((mx64 q3 q4) < q2)))))))])) tgt → Steps p.tables e below (s₁.setTop (entryFrame m #[(.long q1), (.long q2), (.long q3), (.long q4), (.int p5)] maxLocals)) tgt := by
    by_cases hc105_46 : ¬ (q2 < q2)
    · skip
      have pre47 : ∀ tgt, Steps p.tables e below (T41.setTop (mkF m 110 #[.val (.long q1), .second, .val (.long q2), .second, .val (.long q3), .second, .val (.long q4), .second, .val (.int p5), .val (.ref b2), .val (.ref b10), .val (.int (bI (¬ (q2 < q2)))), .val (.int (bI ((q2 = (-9223372036854775808 : Int64)) ∨ (¬ (¬ ((q2 - (1 : Int64)) < q2)))))), .val (.long (mn64 q3 q4)), .second, .val (.long (mx64 q3 q4)), .second, .val (.int (bI ((¬ ((mn64 q3 q4) < q2)) → (¬ ((mx64 q3 q4) < q2)))))] [(.int (bI ((q2 = (-9223372036854775808 : Int64)) ∨ (¬ (¬ ((q2 - (1 : Int64)) < q2))))))])) tgt → Steps p.tables e below (s₁.setTop (entryFrame m #[(.long q1), (.long q2), (.long q3), (.long q4), (.int p5)] maxLocals)) tgt := by
        intro tgt kk
        refine pre45 tgt ?_
        refine XS.ifNo X41.here hx rfl (hb hby at_105) rfl (bB_eq_f hc105_46) ?_
        show Steps p.tables e below (T41.setTop (mkF m 108 #[.val (.long q1), .second, .val (.long q2), .second, .val (.long q3), .second, .val (.long q4), .second, .val (.int p5), .val (.ref b2), .val (.ref b10), .val (.int (bI (¬ (q2 < q2)))), .val (.int (bI ((q2 = (-9223372036854775808 : Int64)) ∨ (¬ (¬ ((q2 - (1 : Int64)) < q2)))))), .val (.long (mn64 q3 q4)), .second, .val (.long (mx64 q3 q4)), .second, .val (.int (bI ((¬ ((mn64 q3 q4) < q2)) → (¬ ((mx64 q3 q4) < q2)))))] [])) _
        refine XS.iload X41.here hx rfl (hb hby at_108) rfl ?_
        show Steps p.tables e below (T41.setTop (mkF m 110 #[.val (.long q1), .second, .val (.long q2), .second, .val (.long q3), .second, .val (.long q4), .second, .val (.int p5), .val (.ref b2), .val (.ref b10), .val (.int (bI (¬ (q2 < q2)))), .val (.int (bI ((q2 = (-9223372036854775808 : Int64)) ∨ (¬ (¬ ((q2 - (1 : Int64)) < q2)))))), .val (.long (mn64 q3 q4)), .second, .val (.long (mx64 q3 q4)), .second, .val (.int (bI ((¬ ((mn64 q3 q4) < q2)) → (¬ ((mx64 q3 q4) < q2)))))] [(.int (bI ((q2 = (-9223372036854775808 : Int64)) ∨ (¬ (¬ ((q2 - (1 : Int64)) < q2))))))])) _
        exact kk
      by_cases hc110_48 : (q2 = (-9223372036854775808 : Int64)) ∨ (¬ (¬ ((q2 - (1 : Int64)) < q2)))
      · skip
        have pre49 : ∀ tgt, Steps p.tables e below (T41.setTop (mkF m 115 #[.val (.long q1), .second, .val (.long q2), .second, .val (.long q3), .second, .val (.long q4), .second, .val (.int p5), .val (.ref b2), .val (.ref b10), .val (.int (bI (¬ (q2 < q2)))), .val (.int (bI ((q2 = (-9223372036854775808 : Int64)) ∨ (¬ (¬ ((q2 - (1 : Int64)) < q2)))))), .val (.long (mn64 q3 q4)), .second, .val (.long (mx64 q3 q4)), .second, .val (.int (bI ((¬ ((mn64 q3 q4) < q2)) → (¬ ((mx64 q3 q4) < q2)))))] [(.int (bI ((¬ ((mn64 q3 q4) < q2)) → (¬ ((mx64 q3 q4) < q2)))))])) tgt → Steps p.tables e below (s₁.setTop (entryFrame m #[(.long q1), (.long q2), (.long q3), (.long q4), (.int p5)] maxLocals)) tgt := by
          intro tgt kk
          refine pre47 tgt ?_
          refine XS.ifNo X41.here hx rfl (hb hby at_110) rfl (bB_eq_f hc110_48) ?_
          show Steps p.tables e below (T41.setTop (mkF m 113 #[.val (.long q1), .second, .val (.long q2), .second, .val (.long q3), .second, .val (.long q4), .second, .val (.int p5), .val (.ref b2), .val (.ref b10), .val (.int (bI (¬ (q2 < q2)))), .val (.int (bI ((q2 = (-9223372036854775808 : Int64)) ∨ (¬ (¬ ((q2 - (1 : Int64)) < q2)))))), .val (.long (mn64 q3 q4)), .second, .val (.long (mx64 q3 q4)), .second, .val (.int (bI ((¬ ((mn64 q3 q4) < q2)) → (¬ ((mx64 q3 q4) < q2)))))] [])) _
          refine XS.iload X41.here hx rfl (hb hby at_113) rfl ?_
          show Steps p.tables e below (T41.setTop (mkF m 115 #[.val (.long q1), .second, .val (.long q2), .second, .val (.long q3), .second, .val (.long q4), .second, .val (.int p5), .val (.ref b2), .val (.ref b10), .val (.int (bI (¬ (q2 < q2)))), .val (.int (bI ((q2 = (-9223372036854775808 : Int64)) ∨ (¬ (¬ ((q2 - (1 : Int64)) < q2)))))), .val (.long (mn64 q3 q4)), .second, .val (.long (mx64 q3 q4)), .second, .val (.int (bI ((¬ ((mn64 q3 q4) < q2)) → (¬ ((mx64 q3 q4) < q2)))))] [(.int (bI ((¬ ((mn64 q3 q4) < q2)) → (¬ ((mx64 q3 q4) < q2)))))])) _
          exact kk
        by_cases hc115_50 : (¬ ((mn64 q3 q4) < q2)) → (¬ ((mx64 q3 q4) < q2))
        · skip
          refine ⟨T41, _, X41, N41, e41, fun tgt kk => ?_⟩
          have kq52 : ((.int (bI ((¬ (q2 < q2)) ∧ (((q2 = (-9223372036854775808 : Int64)) ∨ (¬ (¬ ((q2 - (1 : Int64)) < q2)))) ∧ ((¬ ((mn64 q3 q4) < q2)) → (¬ ((mx64 q3 q4) < q2))))))) : Value) = (.int (1 : Int32)) := ((congrArg Value.int (bI_iff (and_iff_right hc105_46))).trans ((congrArg Value.int (bI_iff (and_iff_right hc110_48))).trans (congrArg Value.int (bI_t hc115_50))))
          rw [kq52] at kk
          refine pre49 tgt ?_
          refine XS.ifNo X41.here hx rfl (hb hby at_115) rfl (bB_eq_f hc115_50) ?_
          show Steps p.tables e below (T41.setTop (mkF m 118 #[.val (.long q1), .second, .val (.long q2), .second, .val (.long q3), .second, .val (.long q4), .second, .val (.int p5), .val (.ref b2), .val (.ref b10), .val (.int (bI (¬ (q2 < q2)))), .val (.int (bI ((q2 = (-9223372036854775808 : Int64)) ∨ (¬ (¬ ((q2 - (1 : Int64)) < q2)))))), .val (.long (mn64 q3 q4)), .second, .val (.long (mx64 q3 q4)), .second, .val (.int (bI ((¬ ((mn64 q3 q4) < q2)) → (¬ ((mx64 q3 q4) < q2)))))] [])) _
          refine XS.iconst X41.here hx rfl (hb hby at_118) ?_
          show Steps p.tables e below (T41.setTop (mkF m 119 #[.val (.long q1), .second, .val (.long q2), .second, .val (.long q3), .second, .val (.long q4), .second, .val (.int p5), .val (.ref b2), .val (.ref b10), .val (.int (bI (¬ (q2 < q2)))), .val (.int (bI ((q2 = (-9223372036854775808 : Int64)) ∨ (¬ (¬ ((q2 - (1 : Int64)) < q2)))))), .val (.long (mn64 q3 q4)), .second, .val (.long (mx64 q3 q4)), .second, .val (.int (bI ((¬ ((mn64 q3 q4) < q2)) → (¬ ((mx64 q3 q4) < q2)))))] [(.int (1 : Int32))])) _
          refine XS.goto X41.here hx rfl (pc0 := 119) (pc' := 123) rfl (hb hby at_119) (by decide) (by decide) ?_
          show Steps p.tables e below (T41.setTop (mkF m 123 #[.val (.long q1), .second, .val (.long q2), .second, .val (.long q3), .second, .val (.long q4), .second, .val (.int p5), .val (.ref b2), .val (.ref b10), .val (.int (bI (¬ (q2 < q2)))), .val (.int (bI ((q2 = (-9223372036854775808 : Int64)) ∨ (¬ (¬ ((q2 - (1 : Int64)) < q2)))))), .val (.long (mn64 q3 q4)), .second, .val (.long (mx64 q3 q4)), .second, .val (.int (bI ((¬ ((mn64 q3 q4) < q2)) → (¬ ((mx64 q3 q4) < q2)))))] [(.int (1 : Int32))])) _
          exact kk
        · skip
          refine ⟨T41, _, X41, N41, e41, fun tgt kk => ?_⟩
          have kq53 : ((.int (bI ((¬ (q2 < q2)) ∧ (((q2 = (-9223372036854775808 : Int64)) ∨ (¬ (¬ ((q2 - (1 : Int64)) < q2)))) ∧ ((¬ ((mn64 q3 q4) < q2)) → (¬ ((mx64 q3 q4) < q2))))))) : Value) = (.int (0 : Int32)) := ((congrArg Value.int (bI_iff (and_iff_right hc105_46))).trans ((congrArg Value.int (bI_iff (and_iff_right hc110_48))).trans (congrArg Value.int (bI_f hc115_50))))
          rw [kq53] at kk
          refine pre49 tgt ?_
          refine XS.ifYes X41.here hx rfl (pc0 := 115) (pc' := 122) rfl (hb hby at_115) rfl (bB_eq_t hc115_50) (by decide) (by decide) ?_
          show Steps p.tables e below (T41.setTop (mkF m 122 #[.val (.long q1), .second, .val (.long q2), .second, .val (.long q3), .second, .val (.long q4), .second, .val (.int p5), .val (.ref b2), .val (.ref b10), .val (.int (bI (¬ (q2 < q2)))), .val (.int (bI ((q2 = (-9223372036854775808 : Int64)) ∨ (¬ (¬ ((q2 - (1 : Int64)) < q2)))))), .val (.long (mn64 q3 q4)), .second, .val (.long (mx64 q3 q4)), .second, .val (.int (bI ((¬ ((mn64 q3 q4) < q2)) → (¬ ((mx64 q3 q4) < q2)))))] [])) _
          refine XS.iconst X41.here hx rfl (hb hby at_122) ?_
          show Steps p.tables e below (T41.setTop (mkF m 123 #[.val (.long q1), .second, .val (.long q2), .second, .val (.long q3), .second, .val (.long q4), .second, .val (.int p5), .val (.ref b2), .val (.ref b10), .val (.int (bI (¬ (q2 < q2)))), .val (.int (bI ((q2 = (-9223372036854775808 : Int64)) ∨ (¬ (¬ ((q2 - (1 : Int64)) < q2)))))), .val (.long (mn64 q3 q4)), .second, .val (.long (mx64 q3 q4)), .second, .val (.int (bI ((¬ ((mn64 q3 q4) < q2)) → (¬ ((mx64 q3 q4) < q2)))))] [(.int (0 : Int32))])) _
          exact kk
      · skip
        refine ⟨T41, _, X41, N41, e41, fun tgt kk => ?_⟩
        have kq54 : ((.int (bI ((¬ (q2 < q2)) ∧ (((q2 = (-9223372036854775808 : Int64)) ∨ (¬ (¬ ((q2 - (1 : Int64)) < q2)))) ∧ ((¬ ((mn64 q3 q4) < q2)) → (¬ ((mx64 q3 q4) < q2))))))) : Value) = (.int (0 : Int32)) := ((congrArg Value.int (bI_iff (and_iff_right hc105_46))).trans (congrArg Value.int (bI_f (fun q => hc110_48 q.1))))
        rw [kq54] at kk
        refine pre47 tgt ?_
        refine XS.ifYes X41.here hx rfl (pc0 := 110) (pc' := 122) rfl (hb hby at_110) rfl (bB_eq_t hc110_48) (by decide) (by decide) ?_
        show Steps p.tables e below (T41.setTop (mkF m 122 #[.val (.long q1), .second, .val (.long q2), .second, .val (.long q3), .second, .val (.long q4), .second, .val (.int p5), .val (.ref b2), .val (.ref b10), .val (.int (bI (¬ (q2 < q2)))), .val (.int (bI ((q2 = (-9223372036854775808 : Int64)) ∨ (¬ (¬ ((q2 - (1 : Int64)) < q2)))))), .val (.long (mn64 q3 q4)), .second, .val (.long (mx64 q3 q4)), .second, .val (.int (bI ((¬ ((mn64 q3 q4) < q2)) → (¬ ((mx64 q3 q4) < q2)))))] [])) _
        refine XS.iconst X41.here hx rfl (hb hby at_122) ?_
        show Steps p.tables e below (T41.setTop (mkF m 123 #[.val (.long q1), .second, .val (.long q2), .second, .val (.long q3), .second, .val (.long q4), .second, .val (.int p5), .val (.ref b2), .val (.ref b10), .val (.int (bI (¬ (q2 < q2)))), .val (.int (bI ((q2 = (-9223372036854775808 : Int64)) ∨ (¬ (¬ ((q2 - (1 : Int64)) < q2)))))), .val (.long (mn64 q3 q4)), .second, .val (.long (mx64 q3 q4)), .second, .val (.int (bI ((¬ ((mn64 q3 q4) < q2)) → (¬ ((mx64 q3 q4) < q2)))))] [(.int (0 : Int32))])) _
        exact kk
    · skip
      refine ⟨T41, _, X41, N41, e41, fun tgt kk => ?_⟩
      have kq55 : ((.int (bI ((¬ (q2 < q2)) ∧ (((q2 = (-9223372036854775808 : Int64)) ∨ (¬ (¬ ((q2 - (1 : Int64)) < q2)))) ∧ ((¬ ((mn64 q3 q4) < q2)) → (¬ ((mx64 q3 q4) < q2))))))) : Value) = (.int (0 : Int32)) := (congrArg Value.int (bI_f (fun q => hc105_46 q.1)))
      rw [kq55] at kk
      refine pre45 tgt ?_
      refine XS.ifYes X41.here hx rfl (pc0 := 105) (pc' := 122) rfl (hb hby at_105) rfl (bB_eq_t hc105_46) (by decide) (by decide) ?_
      show Steps p.tables e below (T41.setTop (mkF m 122 #[.val (.long q1), .second, .val (.long q2), .second, .val (.long q3), .second, .val (.long q4), .second, .val (.int p5), .val (.ref b2), .val (.ref b10), .val (.int (bI (¬ (q2 < q2)))), .val (.int (bI ((q2 = (-9223372036854775808 : Int64)) ∨ (¬ (¬ ((q2 - (1 : Int64)) < q2)))))), .val (.long (mn64 q3 q4)), .second, .val (.long (mx64 q3 q4)), .second, .val (.int (bI ((¬ ((mn64 q3 q4) < q2)) → (¬ ((mx64 q3 q4) < q2)))))] [])) _
      refine XS.iconst X41.here hx rfl (hb hby at_122) ?_
      show Steps p.tables e below (T41.setTop (mkF m 123 #[.val (.long q1), .second, .val (.long q2), .second, .val (.long q3), .second, .val (.long q4), .second, .val (.int p5), .val (.ref b2), .val (.ref b10), .val (.int (bI (¬ (q2 < q2)))), .val (.int (bI ((q2 = (-9223372036854775808 : Int64)) ∨ (¬ (¬ ((q2 - (1 : Int64)) < q2)))))), .val (.long (mn64 q3 q4)), .second, .val (.long (mx64 q3 q4)), .second, .val (.int (bI ((¬ ((mn64 q3 q4) < q2)) → (¬ ((mx64 q3 q4) < q2)))))] [(.int (0 : Int32))])) _
      exact kk
  obtain ⟨fs, hr, hrun, hended, hW, hsame⟩ := X51.leave (v := some (.int (nar .boolean (bI ((¬ (q2 < q2)) ∧ (((q2 = (-9223372036854775808 : Int64)) ∨ (¬ (¬ ((q2 - (1 : Int64)) < q2)))) ∧ ((¬ ((mn64 q3 q4) < q2)) → (¬ ((mx64 q3 q4) < q2))))))))) (fun h => by rw [Bd.returns] at h; cases h)
  refine ⟨_, _, pre51 _ ?_, hrun, hended, _, _, rfl, ?_, ⟨_, rfl⟩, hW, hsame.mono (by decide) (by decide)⟩
  · skip
    exact retN X51 hx (t := .boolean) Bd.returns (by simp) (hb hby at_123) hr
  · show Q0 Z q1 q2 q3 q4 p5 h0 n0 _ T51.heap _
    rw [e51]
    exact ⟨bI_one ⟨own_at q2, own_before q2, own_mono q2 q3 q4⟩, N51⟩
set_option maxRecDepth 65536 in
set_option maxHeartbeats 40000000 in
theorem comes_1 {Post : Tables → Env → Array Value → State → Outcome → State → Prop} (hpost : ∀ tb e args s v u, (limb_1_1.after args s (.returned v) u = true ∧ limb_1_2.after args s (.returned v) u = true ∧ True) → FrameEnd s (.returned v) u (Jvm.fieldLocs frame_1_writes args s ++ Jvm.arrayLocs frame_1_arrays args s ++ Jvm.staticLocs frame_1_statics s) 16 128 → Post tb e args s (.returned v) u) :
    ArmFor flags0 classFile x code maxLocals ret World_1 tables_1 room_1 Calls_1 rest_1 Pre_1 Post := by
  intro l hfl _ _ p e ha hc hk s m args below hf hA hF happ hP
  obtain ⟨hcalls, hrest, hpre⟩ := hP
  obtain ⟨-, -, -, hnamed, -, -, -, hat⟩ := (Spec.applies_iff hf).mp happ
  obtain ⟨hg, hn⟩ := and_e (Cond.before_iff.mp (show (Jvm.Cond.and given_1 narrow_1).before args s = true from hpre))
  obtain ⟨hcount, g0⟩ := and_e hg
  obtain ⟨ga0, g1⟩ := and_e g0
  obtain ⟨ga1, g2⟩ := and_e g1
  obtain ⟨ga2, g3⟩ := and_e g2
  obtain ⟨ga3, g4⟩ := and_e g3
  have ga4 := g4
  obtain ⟨w0, w1, w2, w3, w4, rfl⟩ : ∃ w0 w1 w2 w3 w4 : Value, args = #[w0, w1, w2, w3, w4] := by
    have hs : args.size = 5 := by simpa [Cond.value, given_1] using hcount
    obtain ⟨L⟩ := args
    match L, hs with
    | [w0, w1, w2, w3, w4], _ => exact ⟨w0, w1, w2, w3, w4, rfl⟩
  have hw := fun d (hd : d ∈ tables_1) => atoms_spec (ws := Jvm.Cond.code x code maxLocals ret :: tables_1) hat d (List.mem_cons_of_mem _ hd)
  have hfit : Fit s := fun {y c} hc i hi => by
    obtain ⟨ha, rfl⟩ := Array.getElem?_eq_some_iff.mp hc
    have q := List.all_eq_true.mp ((Array.all_eq_true_iff_forall_mem.mp hF) _ (Array.getElem_mem ha)) i (List.mem_range.mpr hi)
    simpa [Array.getElem?_eq_getElem hi] using q
  obtain ⟨i0, ei0⟩ := isL_v ga0
  obtain rfl : w0 = (.long i0) := Option.some.inj ei0
  obtain ⟨i1, ei1⟩ := isL_v ga1
  obtain rfl : w1 = (.long i1) := Option.some.inj ei1
  obtain ⟨i2, ei2⟩ := isL_v ga2
  obtain rfl : w2 = (.long i2) := Option.some.inj ei2
  obtain ⟨i3, ei3⟩ := isL_v ga3
  obtain rfl : w3 = (.long i3) := Option.some.inj ei3
  obtain ⟨i4, ei4⟩ := is_v ga4
  obtain rfl : w4 = (.int i4) := Option.some.inj ei4
  obtain ⟨n, o, h1, h2, h3, _, L, rfl, ⟨rfl, N⟩, hq⟩ := rm0 l s _ hw tables_1 i0 i1 i2 i3 i4 s.heap s.heap.size (Nat.le_refl _) p e ha hc hk s m _ below hf ((Spec.applies_iff_loose hf).mp happ).1 ⟨rfl, State.Warmed39.refl s, rfl⟩ trivial
  refine ⟨n, _, h1, h2, h3, hpost _ _ _ _ _ _ ⟨Cond.after_iff.mpr rfl, Cond.after_iff.mpr (eq_i res_at (Term.int_eval (1)) rfl), trivial⟩ ⟨hq.1, hq.2.1, (hq.2.2.sift fun y hy => Or.inr (N y hy)).mono (by decide) (by decide)⟩⟩
theorem main_1_1 : Claimed_1_1 := comes_1 fun _ _ _ _ _ _ h hF => ⟨h.1, hF⟩
theorem main_1_2 : Claimed_1_2 := comes_1 fun _ _ _ _ _ _ h hF => ⟨h.2.1, hF⟩
end Jvm.Pilot.@@N@@
namespace Jvm.Pilot.@@N@@
open Jvm Jvm.ClassFile Sem Op Lib Jvm.Free Jvm.Stand Jvm.Pilot.@@N@@.Jvm.D
/-! MADE BY PROGRAM (witnessworld.py) out of the Statement's table words and the real class files: 11 classes; the members and pool entries that the words name. The judged class is class 1, her method 1. -/
namespace start1
open Jvm.ClassFile
def u (s : String) : CpInfo := .utf8 (stringToUtf16 s)
/-- a pool by its gaps: so many unusable entries, then the entry; so many at the end -/
def gap : Nat → List CpInfo → List CpInfo
  | 0, r => r
  | n + 1, r => .unusable :: gap n r
def poolList (es : List (Nat × CpInfo)) (last : Nat) : List CpInfo := es.foldr (fun e r => gap e.1 (e.2 :: r)) (gap last [])
def pool (es : List (Nat × CpInfo)) (last : Nat) : Array CpInfo := ⟨poolList es last⟩
def fileOf (pool : Array CpInfo) (this : Nat) (attrs : Array Attribute := #[]) (ms : Array MethodInfo := #[]) (fl : Nat := 33) (sup : Nat := 0) (ifs : Array Nat := #[]) (fds : Array FieldInfo := #[]) : ClassFile where
  minorVersion := 0
  majorVersion := 65
  constantPool := pool
  accessFlags := fl
  thisClass := this
  superClass := sup
  interfaces := ifs
  fields := fds
  methods := ms
  attributes := attrs
def plain (name : String) (sup : Option ClassId) : Class where
  name := name
  kind := .ordinary
  loader := none
  accessFlags := 33
  super := sup
  interfaces := #[]
  cf := none
  fields := #[]
  methods := #[]
  instanceTypes := #[]
  staticTypes := #[]
  resolved := #[]
  callSites := []
  init := .initialized
  statics := none
  mirror := none

def pool0 : Array CpInfo := pool [(5, u "<init>"), (0, u "()V"), (1, .class_ 10), (1, u "java/lang/Object")] 113

def k0c0 : Code := { maxStack := 0, maxLocals := 1, code := object_method_1_code, exceptionTable := #[], attributes := #[] }
def k0m0 : Method := { name := "<init>", desc := "()V", sig := { parameters := [], returnType := none }, accessFlags := 1, code := some k0c0 }
/-- java/lang/Object -/
def k0 : Class := { plain "java/lang/Object" none with
  accessFlags := 33
  interfaces := #[]
  cf := some (fileOf pool0 8 #[] #[{ accessFlags := 1, nameIndex := 5, descriptorIndex := 6, attributes := #[] }] 33 0 #[] #[])
  fields := #[]
  methods := #[k0m0]
  instanceTypes := #[]
  staticTypes := #[]
  resolved := Array.replicate 124 none
  statics := none }

def pool1 : Array CpInfo := pool [(2, .class_ 4), (1, u "java/lang/Object"), (0, u "<init>"), (0, u "()V"), (0, .class_ 8), (0, u "com/example/message_ledger/messageledger/group/CommittedOffset"), (0, .methodref 7 10), (0, .nameAndType 5 11), (0, u "(J[BJ)V"), (0, .methodref 7 13), (0, .nameAndType 14 15), (0, u "isExpired"), (0, u "(J)Z"), (2, .long 9223372036854775808), (1, .methodref 21 22), (0, .class_ 23), (0, .nameAndType 24 25), (0, u "java/lang/Math"), (0, u "min"), (0, u "(JJ)J"), (0, .methodref 21 27), (0, .nameAndType 28 25), (0, u "max"), (0, .class_ 30), (0, u "com/example/message_ledger/messageledger/group/CommittedOffsetIsExpiredPinLaw"), (2, u "law"), (0, u "(JJJJI)Z")] 5

def k1m0 : Method := { name := "<init>", desc := "()V", sig := { parameters := [], returnType := none }, accessFlags := 1, code := none }
def k1c1 : Code := { maxStack := 7, maxLocals := 18, code := code, exceptionTable := #[], attributes := #[] }
def k1m1 : Method := { name := "law", desc := "(JJJJI)Z", sig := { parameters := [.long, .long, .long, .long, .int], returnType := some .boolean }, accessFlags := 9, code := some k1c1 }
/-- com/example/message_ledger/messageledger/group/CommittedOffsetIsExpiredPinLaw -/
def k1 : Class := { plain "com/example/message_ledger/messageledger/group/CommittedOffsetIsExpiredPinLaw" (some 0) with
  accessFlags := 49
  interfaces := #[]
  cf := some (fileOf pool1 29 #[] #[{ accessFlags := 1, nameIndex := 5, descriptorIndex := 6, attributes := #[] }, { accessFlags := 9, nameIndex := 33, descriptorIndex := 34, attributes := #[] }] 49 2 #[] #[])
  fields := #[]
  methods := #[k1m0, k1m1]
  instanceTypes := #[]
  staticTypes := #[]
  resolved := Array.replicate 40 none
  statics := none }

def pool2 : Array CpInfo := pool [(1, .methodref 2 3), (0, .class_ 4), (0, .nameAndType 5 6), (0, u "java/lang/Object"), (0, u "<init>"), (0, u "()V"), (0, .class_ 8), (0, u "java/lang/Record")] 13

def k2c0 : Code := { maxStack := 1, maxLocals := 1, code := jdk_30_method_1_code, exceptionTable := #[], attributes := #[] }
def k2m0 : Method := { name := "<init>", desc := "()V", sig := { parameters := [], returnType := none }, accessFlags := 4, code := some k2c0 }
/-- java/lang/Record -/
def k2 : Class := { plain "java/lang/Record" (some 0) with
  accessFlags := 1057
  interfaces := #[]
  cf := some (fileOf pool2 7 #[] #[{ accessFlags := 4, nameIndex := 5, descriptorIndex := 6, attributes := #[] }] 1057 2 #[] #[])
  fields := #[]
  methods := #[k2m0]
  instanceTypes := #[]
  staticTypes := #[]
  resolved := Array.replicate 22 none
  statics := none }

def pool3 : Array CpInfo := pool [(3, .methodref 4 5), (0, .class_ 6), (0, .nameAndType 7 8), (0, u "java/lang/Record"), (0, u "<init>"), (0, u "()V"), (0, .fieldref 10 11), (0, .class_ 12), (0, .nameAndType 13 14), (0, u "com/example/message_ledger/messageledger/group/CommittedOffset"), (0, u "offset"), (0, u "J"), (0, .fieldref 10 16), (0, .nameAndType 17 18), (0, u "metadata"), (0, u "[B"), (0, .fieldref 10 20), (0, .nameAndType 21 14), (0, u "expiresAt"), (12, u "NEVER"), (3, u "(J[BJ)V"), (3, u "isExpired"), (0, u "(J)Z")] 28

def k3c0 : Code := { maxStack := 3, maxLocals := 6, code := prog_20_method_1_code, exceptionTable := #[], attributes := #[] }
def k3m0 : Method := { name := "<init>", desc := "(J[BJ)V", sig := { parameters := [.long, (.array .byte), .long], returnType := none }, accessFlags := 1, code := some k3c0 }
def k3c1 : Code := { maxStack := 4, maxLocals := 3, code := prog_20_method_2_code, exceptionTable := #[], attributes := #[] }
def k3m1 : Method := { name := "isExpired", desc := "(J)Z", sig := { parameters := [.long], returnType := some .boolean }, accessFlags := 1, code := some k3c1 }
/-- com/example/message_ledger/messageledger/group/CommittedOffset -/
def k3 : Class := { plain "com/example/message_ledger/messageledger/group/CommittedOffset" (some 2) with
  accessFlags := 49
  interfaces := #[]
  cf := some (fileOf pool3 10 #[] #[{ accessFlags := 1, nameIndex := 7, descriptorIndex := 38, attributes := #[] }, { accessFlags := 1, nameIndex := 42, descriptorIndex := 43, attributes := #[] }] 49 4 #[] #[{ accessFlags := 18, nameIndex := 13, descriptorIndex := 14, attributes := #[] }, { accessFlags := 18, nameIndex := 17, descriptorIndex := 18, attributes := #[] }, { accessFlags := 18, nameIndex := 21, descriptorIndex := 14, attributes := #[] }, { accessFlags := 25, nameIndex := 34, descriptorIndex := 14, attributes := #[] }])
  fields := #[{ name := "offset", type := .long, accessFlags := 18, slot := 0, constantValue := 0 }, { name := "metadata", type := (.array .byte), accessFlags := 18, slot := 1, constantValue := 0 }, { name := "expiresAt", type := .long, accessFlags := 18, slot := 2, constantValue := 0 }, { name := "NEVER", type := .long, accessFlags := 25, slot := 0, constantValue := 0 }]
  methods := #[k3m0, k3m1]
  instanceTypes := #[.long, (.array .byte), .long]
  staticTypes := #[.long]
  resolved := Array.replicate 72 none
  statics := none }

def pool4 : Array CpInfo := pool [(1, .class_ 2), (0, u "java/lang/Math"), (1, .class_ 6), (1, u "java/lang/Object"), (0, u "<init>"), (0, u "()V"), (89, .class_ 100), (1, u "java/lang/Math$RandomNumberGeneratorHolder"), (20, u "(JJ)J"), (50, u "negativeZeroFloatBits"), (0, u "J"), (2, u "negativeZeroDoubleBits"), (21, u "max"), (2, u "min"), (43, u "$assertionsDisabled"), (0, u "Z"), (91, u "twoToTheDoubleScaleDown"), (0, u "D"), (4, u "twoToTheDoubleScaleUp"), (9, u "E"), (3, u "PI"), (2, u "TAU"), (2, u "DEGREES_TO_RADIANS"), (0, u "RADIANS_TO_DEGREES")] 94

def k4m0 : Method := { name := "<init>", desc := "()V", sig := { parameters := [], returnType := none }, accessFlags := 2, code := none }
def k4c1 : Code := { maxStack := 4, maxLocals := 4, code := jdk_29_method_66_code, exceptionTable := #[], attributes := #[] }
def k4m1 : Method := { name := "max", desc := "(JJ)J", sig := { parameters := [.long, .long], returnType := some .long }, accessFlags := 9, code := some k4c1 }
def k4c2 : Code := { maxStack := 4, maxLocals := 4, code := jdk_29_method_70_code, exceptionTable := #[], attributes := #[] }
def k4m2 : Method := { name := "min", desc := "(JJ)J", sig := { parameters := [.long, .long], returnType := some .long }, accessFlags := 9, code := some k4c2 }
/-- java/lang/Math -/
def k4 : Class := { plain "java/lang/Math" (some 0) with
  accessFlags := 49
  interfaces := #[]
  cf := some (fileOf pool4 1 #[.nestMembers #[98]] #[{ accessFlags := 2, nameIndex := 7, descriptorIndex := 8, attributes := #[] }, { accessFlags := 9, nameIndex := 198, descriptorIndex := 121, attributes := #[] }, { accessFlags := 9, nameIndex := 201, descriptorIndex := 121, attributes := #[] }] 49 4 #[] #[{ accessFlags := 25, nameIndex := 354, descriptorIndex := 339, attributes := #[] }, { accessFlags := 25, nameIndex := 358, descriptorIndex := 339, attributes := #[] }, { accessFlags := 25, nameIndex := 361, descriptorIndex := 339, attributes := #[] }, { accessFlags := 26, nameIndex := 364, descriptorIndex := 339, attributes := #[] }, { accessFlags := 26, nameIndex := 365, descriptorIndex := 339, attributes := #[] }, { accessFlags := 26, nameIndex := 172, descriptorIndex := 173, attributes := #[] }, { accessFlags := 26, nameIndex := 176, descriptorIndex := 173, attributes := #[] }, { accessFlags := 8, nameIndex := 344, descriptorIndex := 339, attributes := #[] }, { accessFlags := 8, nameIndex := 338, descriptorIndex := 339, attributes := #[] }, { accessFlags := 4120, nameIndex := 245, descriptorIndex := 246, attributes := #[] }])
  fields := #[{ name := "E", type := .double, accessFlags := 25, slot := 0, constantValue := 0 }, { name := "PI", type := .double, accessFlags := 25, slot := 1, constantValue := 0 }, { name := "TAU", type := .double, accessFlags := 25, slot := 2, constantValue := 0 }, { name := "DEGREES_TO_RADIANS", type := .double, accessFlags := 26, slot := 3, constantValue := 0 }, { name := "RADIANS_TO_DEGREES", type := .double, accessFlags := 26, slot := 4, constantValue := 0 }, { name := "negativeZeroFloatBits", type := .long, accessFlags := 26, slot := 5, constantValue := 0 }, { name := "negativeZeroDoubleBits", type := .long, accessFlags := 26, slot := 6, constantValue := 0 }, { name := "twoToTheDoubleScaleUp", type := .double, accessFlags := 8, slot := 7, constantValue := 0 }, { name := "twoToTheDoubleScaleDown", type := .double, accessFlags := 8, slot := 8, constantValue := 0 }, { name := "$assertionsDisabled", type := .boolean, accessFlags := 4120, slot := 9, constantValue := 0 }]
  methods := #[k4m0, k4m1, k4m2]
  instanceTypes := #[]
  staticTypes := #[.double, .double, .double, .double, .double, .long, .long, .double, .double, .boolean]
  resolved := Array.replicate 460 none
  statics := none }

def pool5 : Array CpInfo := pool [(1, u "java/lang/Cloneable"), (0, .class_ 1), (0, u "java/lang/Object"), (0, .class_ 3)] 3

/-- java/lang/Cloneable -/
def k5 : Class := { plain "java/lang/Cloneable" (some 0) with
  accessFlags := 1537
  interfaces := #[]
  cf := some (fileOf pool5 2 #[] #[] 1537 4 #[] #[])
  fields := #[]
  methods := #[]
  instanceTypes := #[]
  staticTypes := #[]
  resolved := Array.replicate 8 none
  statics := none }

def pool6 : Array CpInfo := pool [(1, u "java/io/Serializable"), (0, .class_ 1), (0, u "java/lang/Object"), (0, .class_ 3)] 3

/-- java/io/Serializable -/
def k6 : Class := { plain "java/io/Serializable" (some 0) with
  accessFlags := 1537
  interfaces := #[]
  cf := some (fileOf pool6 2 #[] #[] 1537 4 #[] #[])
  fields := #[]
  methods := #[]
  instanceTypes := #[]
  staticTypes := #[]
  resolved := Array.replicate 8 none
  statics := none }

/-- the primitive byte -/
def k7 : Class := { plain "byte" none with kind := .primitive 'B', accessFlags := 0x411 }
/-- [B -/
def k8 : Class := { plain "[B" (some 0) with kind := .array 7 .byte, interfaces := #[5, 6], accessFlags := 1041 }

/-- the primitive int -/
def k9 : Class := { plain "int" none with kind := .primitive 'I', accessFlags := 0x411 }
/-- [I -/
def k10 : Class := { plain "[I" (some 0) with kind := .array 9 .int, interfaces := #[5, 6], accessFlags := 1041 }

def heap : Heap := #[]
def classes : Array Class := #[k0, k1, k2, k3, k4, k5, k6, k7, k8, k9, k10]
def interned : List (Array UInt16 × Addr) := []
def slotsUsed : Nat := 0
def theMethod : MethodId := ⟨1, 1⟩
def args0 : Array Value := #[.long 5, .long 7, .long 1, .long 2, .int 3]
def aboutOver (below : List Frame) : State where
  vm := { classes := classes, interned := interned.toArray }
  heap := heap
  slotsUsed := slotsUsed
  threads := #[{ frames := .invoking theMethod args0 :: below }]
def below0 : List Frame := [.native { method := ⟨0, 0⟩, args := #[] }]
def about1 : State := aboutOver below0
def p0 : Program := .bare "" "" ""
def e0 : Env := launch0.env 0 0 0
theorem w_frames : about1.frames = Frame.invoking theMethod args0 :: below0 := rfl
set_option maxRecDepth 65536 in
theorem w_args : argsFit about1.vm theMethod args0 = true := by decide +kernel
set_option maxRecDepth 65536 in
theorem w_heap : heapFits about1 = true := by decide +kernel
set_option maxRecDepth 65536 in
theorem w_runnable : about1.curStatus? = some .runnable := by decide +kernel
set_option maxRecDepth 65536 in
theorem w_alone : about1.alone = true := by decide +kernel
set_option maxRecDepth 65536 in
theorem w_named : about1.methodNamed? x = some theMethod := by decide +kernel
set_option maxRecDepth 65536 in
theorem w_hears : about1.hears theMethod below0 = true := by decide +kernel
set_option maxRecDepth 65536 in
theorem w_ripe : about1.ripe theMethod args0 below0 = true := by decide +kernel
theorem w_running : about1.status = .running := rfl
set_option maxRecDepth 65536 in
theorem w_room : about1.hasRoom e0.platform room_1 = true :=
  launch0.hasRoom_least _ room_1 (by decide +kernel) (by decide +kernel) (by decide +kernel) (by decide +kernel) (by decide +kernel) (by decide +kernel)
theorem allAtoms_all (ts : List Jvm.Cond) (a : Array Jvm.Value) (st : Jvm.State) : (allAtoms ts).before a st = ts.all (fun c => c.before a st) := by
  induction ts with
  | nil => rfl
  | cons c t ih =>
    show (Jvm.Cond.and c (allAtoms t)).before a st = _
    rw [Jvm.Cond.before_and, ih, List.all_cons]
def words1 : List Jvm.Cond := Jvm.Cond.code x code maxLocals ret :: tables_1
/-- a 'code' word, met by the world's own term for the bytes: nothing is compared byte by byte -/
theorem code_word {y : MethodName} {bytes : ByteArray} {mx : Nat} {rt : Option FieldType} {a : Array Value} {s : State} {m : MethodId} {meth : Method} {c : Code} (h1 : s.methodNamed? y = some m) (h2 : s.vm.method? m = some meth) (h3 : meth.code = some c) (h4 : c.code = bytes)
    (h5 : (c.maxLocals == mx && c.exceptionTable.isEmpty && decide (c.maxStack ≤ mostOperands) && decide (meth.sig.returnType = rt) && !meth.locks && decide (parseMethodDescriptor y.desc = some meth.sig)) = true) : (Jvm.Cond.code y bytes mx rt).before a s = true := by
  simp only [Bool.and_eq_true, beq_iff_eq, Bool.not_eq_true', decide_eq_true_eq] at h5
  obtain ⟨⟨⟨⟨⟨g1, g2⟩, g3⟩, g4⟩, g5⟩, g6⟩ := h5
  simp [Cond.before, Cond.holds, Cond.value, h1, h2, h3, h4, g1, g2, g3, g4, g5, g6]
def isCode : Jvm.Cond → Bool
  | .code _ _ _ _ => true
  | _ => false
theorem all_split {L : List Jvm.Cond} {P : Jvm.Cond → Bool} (h1 : L.all (fun c => isCode c || P c) = true) (h2 : ∀ c ∈ L.filter isCode, P c = true) : L.all P = true := by
  refine List.all_eq_true.mpr fun c hc => ?_
  have h := List.all_eq_true.mp h1 c hc
  rcases Bool.eq_false_or_eq_true (isCode c) with hi | hi
  · exact h2 c (List.mem_filter.mpr ⟨hc, hi⟩)
  · simpa [hi] using h
set_option maxRecDepth 65536 in
theorem w_c0 : (Jvm.Cond.code x code maxLocals ret).before args0 about1 = true := code_word (m := ⟨1, 1⟩) (meth := k1m1) (c := k1c1) (by decide +kernel) rfl rfl rfl (by decide +kernel)
set_option maxRecDepth 65536 in
theorem w_c1 : (Jvm.Cond.code ({ cls := "com/example/message_ledger/messageledger/group/CommittedOffset", name := "<init>", desc := "(J[BJ)V" } : Jvm.MethodName) prog_20_method_1_code (6 : Nat) (Option.none : Option Jvm.ClassFile.FieldType)).before args0 about1 = true := code_word (m := ⟨3, 0⟩) (meth := k3m0) (c := k3c0) (by decide +kernel) rfl rfl rfl (by decide +kernel)
set_option maxRecDepth 65536 in
theorem w_c2 : (Jvm.Cond.code ({ cls := "java/lang/Record", name := "<init>", desc := "()V" } : Jvm.MethodName) jdk_30_method_1_code (1 : Nat) (Option.none : Option Jvm.ClassFile.FieldType)).before args0 about1 = true := code_word (m := ⟨2, 0⟩) (meth := k2m0) (c := k2c0) (by decide +kernel) rfl rfl rfl (by decide +kernel)
set_option maxRecDepth 65536 in
theorem w_c3 : (Jvm.Cond.code ({ cls := "java/lang/Object", name := "<init>", desc := "()V" } : Jvm.MethodName) object_method_1_code (1 : Nat) (Option.none : Option Jvm.ClassFile.FieldType)).before args0 about1 = true := code_word (m := ⟨0, 0⟩) (meth := k0m0) (c := k0c0) (by decide +kernel) rfl rfl rfl (by decide +kernel)
set_option maxRecDepth 65536 in
theorem w_c4 : (Jvm.Cond.code ({ cls := "com/example/message_ledger/messageledger/group/CommittedOffset", name := "isExpired", desc := "(J)Z" } : Jvm.MethodName) prog_20_method_2_code (3 : Nat) (Option.some Jvm.ClassFile.FieldType.boolean)).before args0 about1 = true := code_word (m := ⟨3, 1⟩) (meth := k3m1) (c := k3c1) (by decide +kernel) rfl rfl rfl (by decide +kernel)
set_option maxRecDepth 65536 in
theorem w_c5 : (Jvm.Cond.code ({ cls := "java/lang/Math", name := "min", desc := "(JJ)J" } : Jvm.MethodName) jdk_29_method_70_code (4 : Nat) (Option.some Jvm.ClassFile.FieldType.long)).before args0 about1 = true := code_word (m := ⟨4, 2⟩) (meth := k4m2) (c := k4c2) (by decide +kernel) rfl rfl rfl (by decide +kernel)
set_option maxRecDepth 65536 in
theorem w_c6 : (Jvm.Cond.code ({ cls := "java/lang/Math", name := "max", desc := "(JJ)J" } : Jvm.MethodName) jdk_29_method_66_code (4 : Nat) (Option.some Jvm.ClassFile.FieldType.long)).before args0 about1 = true := code_word (m := ⟨4, 1⟩) (meth := k4m1) (c := k4c1) (by decide +kernel) rfl rfl rfl (by decide +kernel)
def codes1 : List Jvm.Cond := [Jvm.Cond.code x code maxLocals ret, Jvm.Cond.code ({ cls := "com/example/message_ledger/messageledger/group/CommittedOffset", name := "<init>", desc := "(J[BJ)V" } : Jvm.MethodName) prog_20_method_1_code (6 : Nat) (Option.none : Option Jvm.ClassFile.FieldType), Jvm.Cond.code ({ cls := "java/lang/Record", name := "<init>", desc := "()V" } : Jvm.MethodName) jdk_30_method_1_code (1 : Nat) (Option.none : Option Jvm.ClassFile.FieldType), Jvm.Cond.code ({ cls := "java/lang/Object", name := "<init>", desc := "()V" } : Jvm.MethodName) object_method_1_code (1 : Nat) (Option.none : Option Jvm.ClassFile.FieldType), Jvm.Cond.code ({ cls := "com/example/message_ledger/messageledger/group/CommittedOffset", name := "isExpired", desc := "(J)Z" } : Jvm.MethodName) prog_20_method_2_code (3 : Nat) (Option.some Jvm.ClassFile.FieldType.boolean), Jvm.Cond.code ({ cls := "java/lang/Math", name := "min", desc := "(JJ)J" } : Jvm.MethodName) jdk_29_method_70_code (4 : Nat) (Option.some Jvm.ClassFile.FieldType.long), Jvm.Cond.code ({ cls := "java/lang/Math", name := "max", desc := "(JJ)J" } : Jvm.MethodName) jdk_29_method_66_code (4 : Nat) (Option.some Jvm.ClassFile.FieldType.long)]
set_option maxRecDepth 65536 in
theorem codes_eq : words1.filter isCode = codes1 := rfl
theorem w_codes : ∀ c ∈ words1.filter isCode, c.before args0 about1 = true := by
  rw [codes_eq]
  intro c hc
  simp only [codes1, List.mem_cons, List.not_mem_nil, or_false] at hc
  rcases hc with rfl | rfl | rfl | rfl | rfl | rfl | rfl
  · exact w_c0
  · exact w_c1
  · exact w_c2
  · exact w_c3
  · exact w_c4
  · exact w_c5
  · exact w_c6
set_option maxRecDepth 65536 in
theorem w_t1 : (words1.take 24).all (fun c => isCode c || c.before args0 about1) = true := by decide +kernel
set_option maxRecDepth 65536 in
theorem w_t2 : (words1.drop 24).all (fun c => isCode c || c.before args0 about1) = true := by decide +kernel
theorem w_tables : (allAtoms (Jvm.Cond.code x code maxLocals ret :: tables_1)).before args0 about1 = true := by
  rw [allAtoms_all]
  show words1.all (fun c => c.before args0 about1) = true
  refine all_split ?_ w_codes
  rw [← List.take_append_drop 24 words1, List.all_append, w_t1, w_t2]
  rfl
set_option maxRecDepth 65536 in
theorem w_case : (Jvm.Cond.and given_1 narrow_1).before args0 about1 = true := by decide +kernel
theorem w_applies : (headSpec (Jvm.Cond.code x code maxLocals ret :: tables_1) room_1).applies x e0.platform about1 = true :=
  (Spec.applies_iff w_frames).mpr ⟨w_running, w_runnable, w_alone, w_named, w_hears, w_ripe, w_room, w_tables⟩
theorem atStart : AtStart classFile x code maxLocals ret World_1 tables_1 room_1 Calls_1 rest_1 Pre_1 launch0 p0 e0 about1 theMethod args0 below0 :=
  ⟨lists_1, trivial, launch0.admits_env _ _ _, launch0.least_env, fairChoices_fair.cas, fairChoices_fair.clock, w_frames, w_args, w_heap, w_applies, trivial, trivial, w_case⟩
end start1
theorem witness_1 : WitnessClaimed_1 := ⟨start1.p0, start1.e0, start1.about1, start1.theMethod, start1.args0, start1.below0, start1.atStart⟩
end Jvm.Pilot.@@N@@
