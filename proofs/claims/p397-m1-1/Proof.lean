import JvmDerived
import JvmDerived.Pilot.@@N@@Statement
import JvmDerived.Pilot.@@N@@Code
set_option linter.unusedVariables false
set_option linter.unusedSimpArgs false
namespace Jvm.RoadKit
open Sem ClassFile Op Lib Jvm.Stand Jvm.Free Jvm.LawKit
section New
variable {p : Program} {l : Launch} {e : Env} {R : Room} {s : State} {m : MethodId} {args : Array Value} {below : List Frame} {meth : Method} {c : Code} {T : State} {locs : List Loc} {cells slots : Nat}
theorem retI (X : Stand p l e R s m args below meth c T locs cells slots) (hx : p.tables.exec = Jvm.exec) {pc : Nat} {Ls : Array Slot} {z : Int32} {rest : List Value} (hret : meth.sig.returnType = some .int) (hd : decode c.code pc = .ok (.ireturn, 1)) {fs : List Frame}
    (hl : ∀ (f : JFrame) (acts : List Action), f.method = m → f.locked = none → f.entered = [] → (doReturn e (T.setTop f) acts (some (.int z))).1 = T.setFrames fs) : Steps p.tables e below (T.setTop (mkF m pc Ls (.int z :: rest))) (T.setFrames fs) := by
  have hm' : T.vm.method? m = some meth := X.method'
  have hn : narrow .int (.int z) = .int z := rfl
  show Steps p.tables e below (T.setTop { method := m, pc := pc, locals := Ls, stack := _ :: rest, locked := none }) _
  jvm_step X.here [X.here.top, hx, hd, hm', hret, hn]
  first | (intro acts; rw [hl _ acts rfl rfl rfl]) | rw [hl _ _ rfl rfl rfl]
  exact Steps.refl _
end New
theorem own_sta_keep {Z : State} {h h' : Heap} {C n d : String} {v : Value} {ws : List Addr} (F : Sta Z h C n d v) (K : Keep h h' ws) (q : ∀ x ∈ ws, ∀ c : Cell, h[x]? = some c → c.vm.isStatics = false) : Sta Z h' C n d v := by
  obtain ⟨cf, i, k, f, st, cell, h1, h2, h3, h4, h5, h6, h7⟩ := F
  exact ⟨cf, i, k, f, st, cell, h1, h2, h3, h4, K.2.1 st cell h5 (fun hm => by rw [q st hm cell h5] at h6; cases h6), h6, h7⟩
theorem own_plain_Exa {Z : State} {h : Heap} {a : Addr} {C : String} (F : Exa Z h a C) : ∀ c : Cell, h[a]? = some c → c.vm.isStatics = false := fun c hc => by
  obtain ⟨cell, _, h1, -, -, h4, -⟩ := F
  cases h1.symm.trans hc; exact h4
theorem own_plain_Arv {Z : State} {h : Heap} {a : Addr} {k : ClassId} {ty : FieldType} {n : Int32} {vs : List Value} {d : Value} (F : Arv Z h a k ty n vs d) : ∀ c : Cell, h[a]? = some c → c.vm.isStatics = false := fun c hc => by
  obtain ⟨cell, A, -⟩ := F
  cases A.1.symm.trans hc; exact A.plain
end Jvm.RoadKit
namespace Jvm.Pilot.@@N@@
open Jvm Jvm.ClassFile Sem Op Lib Jvm.Free Jvm.Stand Jvm.LawKit Jvm.RoadKit Bundle Jvm.Pilot.@@N@@.Jvm.D
def bI (P : Prop) [Decidable P] : Int32 := if P then 1 else 0
theorem bI_eq {P Q : Prop} [Decidable P] [Decidable Q] : bI P = bI Q ↔ (P ↔ Q) := by unfold bI; by_cases h : P <;> by_cases g : Q <;> simp [h, g]
theorem bI_eq1 {P : Prop} [Decidable P] : bI P = 1 ↔ P := by unfold bI; by_cases h : P <;> simp [h]
theorem bI_1eq {P : Prop} [Decidable P] : 1 = bI P ↔ P := by unfold bI; by_cases h : P <;> simp [h]
theorem bI_eq0 {P : Prop} [Decidable P] : bI P = 0 ↔ (P ↔ False) := by unfold bI; by_cases h : P <;> simp [h]
theorem bI_0eq {P : Prop} [Decidable P] : 0 = bI P ↔ (False ↔ P) := by unfold bI; by_cases h : P <;> simp [h]
theorem bI_t {P : Prop} [Decidable P] (h : P) : bI P = 1 := if_pos h
theorem bI_f {P : Prop} [Decidable P] (h : ¬ P) : bI P = 0 := if_neg h
theorem bI_iff {P Q : Prop} [Decidable P] [Decidable Q] (h : P ↔ Q) : bI P = bI Q := bI_eq.mpr h
theorem imp_iff_h {P Q : Prop} (h : P) : (P → Q) ↔ Q := ⟨fun f => f h, fun q _ => q⟩
theorem sel_t {P A B : Prop} (h : P) : ((P ∧ A) ∨ (¬ P ∧ B)) ↔ A := ⟨fun q => q.elim (fun z => z.2) (fun z => absurd h z.1), fun a => Or.inl ⟨h, a⟩⟩
theorem sel_f {P A B : Prop} (h : ¬ P) : ((P ∧ A) ∨ (¬ P ∧ B)) ↔ B := ⟨fun q => q.elim (fun z => absurd z.1 h) (fun z => z.2), fun b => Or.inr ⟨h, b⟩⟩
theorem bB_eq_t {P : Prop} [Decidable P] (h : ¬ P) : ifCond.holds .eq (bI P) = true := by rw [bI_f h]; rfl
theorem bB_eq_f {P : Prop} [Decidable P] (h : P) : ifCond.holds .eq (bI P) = false := by rw [bI_t h]; rfl
theorem bB_ne_t {P : Prop} [Decidable P] (h : P) : ifCond.holds .ne (bI P) = true := by rw [bI_t h]; rfl
theorem bB_ne_f {P : Prop} [Decidable P] (h : ¬ P) : ifCond.holds .ne (bI P) = false := by rw [bI_f h]; rfl
theorem bI_nar {P : Prop} [Decidable P] : nar .boolean (bI P) = bI P := by by_cases h : P <;> simp only [bI, h, if_true, if_false] <;> rfl
theorem bI_ret {P : Prop} [Decidable P] : (some (.int (nar .boolean (bI P))) : Option Value) = some (.int (bI P)) := by rw [bI_nar]
theorem bI_one {P : Prop} [Decidable P] (h : P) : (some (.int (nar .boolean (bI P))) : Option Value) = some (.int 1) := by rw [bI_nar, bI_t h]
theorem own_ite_ref {P : Prop} [Decidable P] {x y : Value} (h : x.isRef = true) (g : y.isRef = true) : (if P then x else y).isRef = true := by by_cases q : P <;> simp [q, h, g]
theorem own_fits_ref {t : FieldType} {x : Value} (ht : t.isReference = true) (h : x.isRef = true) : fits t x = true := by cases t <;> first | (cases ht; done) | (cases x <;> simp_all [fits, Value.isRef])
theorem own_eqI {args : Array Value} {s : State} {t : Term} {k : Int32} (h : (Cond.eq t (.int k)).value args s none s [] = some true) : t.eval args s none [] s = some (.int k) := by
  simp only [Cond.value, Term.eval] at h
  cases ht : t.eval args s none [] s with
  | none => simp [ht] at h
  | some v => cases v <;> simp [ht] at h ⊢; exact h
theorem own_eqR {args : Array Value} {s : State} {t u : Term} {v : Value} (hu : u.eval args s none [] s = some v) (hv : v.isRef = true) (h : (Cond.eq t u).value args s none s [] = some true) : t.eval args s none [] s = some v := by
  cases ht : t.eval args s none [] s with
  | none => simp [Cond.value, ht, hu] at h
  | some x =>
    rcases ref_cases hv with rfl | ⟨a, rfl⟩ <;> cases x <;> simp [Cond.value, ht, hu] at h ⊢ <;> exact h
theorem own_len {args : Array Value} {s : State} {t : Term} {a : Addr} {c : Cell} {ty : FieldType} {k : Int32} (ev : t.eval args s none [] s = some (.ref a)) (A : Arr s s.heap a c ty) (h : (Term.length t).eval args s none [] s = some (.int k)) : c.slots.size < 2 ^ 31 ∧ c.slots.size.toInt32 = k := by
  have ha := A.fin (Vm.Alike.refl _)
  by_cases q : c.slots.size < 2 ^ 31
  · rw [len_f ev ha q] at h; exact ⟨q, by injection h with h; injection h⟩
  · simp [Term.eval, ev, ha, q] at h


def mn64 (a b : Int64) : Int64 := if b < a then b else a
def mx64 (a b : Int64) : Int64 := if a < b then b else a
theorem mn64_le (a b : Int64) : (mn64 a b).toInt ≤ (mx64 a b).toInt := by
  unfold mn64 mx64; by_cases h : b < a <;> by_cases g : a < b <;> simp only [h, g, if_true, if_false] <;> rw [Int64.lt_iff_toInt_lt] at h g <;> omega
theorem own_law (q1 q2 : Int64) : (¬ mn64 q1 q2 < 1) → ¬ mx64 q1 q2 < 1 := by
  have h := mn64_le q1 q2; simp only [Int64.lt_iff_toInt_lt]; omega

theorem d1_0 : decode jdk_29_method_70_code 0 = .ok (.lload_n 0, 1) := by decide +kernel
theorem d1_1 : decode jdk_29_method_70_code 1 = .ok (.lload_n 2, 1) := by decide +kernel
theorem d1_2 : decode jdk_29_method_70_code 2 = .ok (.lcmp, 1) := by decide +kernel
theorem d1_3 : decode jdk_29_method_70_code 3 = .ok (.ifCond .gt 7, 3) := by decide +kernel
theorem d1_6 : decode jdk_29_method_70_code 6 = .ok (.lload_n 0, 1) := by decide +kernel
theorem d1_7 : decode jdk_29_method_70_code 7 = .ok (.goto 4, 3) := by decide +kernel
theorem d1_10 : decode jdk_29_method_70_code 10 = .ok (.lload_n 2, 1) := by decide +kernel
theorem d1_11 : decode jdk_29_method_70_code 11 = .ok (.lreturn, 1) := by decide +kernel
theorem ef_rm1 (m : MethodId) (x0 : Int64) (x1 : Int64) : entryFrame m #[(.long x0), (.long x1)] 4 = mkF m 0 #[.val (.long x0), .second, .val (.long x1), .second] [] := by first | (simp [entryFrame, mkF, argsToLocals, Value.category]; done) | rfl
def Q1 (Z : State) (q1 : Int64) (q2 : Int64) (h0 : Heap) (n0 : Nat) (v : Option Value) (h : Heap) (L : List Loc) : Prop := v = some (.long (mn64 q1 q2)) ∧ Fr n0 L ∧ h = h0
set_option maxRecDepth 65536 in
set_option maxHeartbeats 40000000 in
theorem rm1 (l : Launch) (Z : State) (a0 : Array Value) (hw : ∀ d ∈ tables_1, d.before a0 Z = true) (ws : List Jvm.Cond) (q1 : Int64) (q2 : Int64) (h0 : Heap) (n0 : Nat) (Z0 : n0 ≤ h0.size) :
    MetFree l (⟨"java/lang/Math", "min", "(JJ)J"⟩ : MethodName) (head1 (Jvm.Cond.code (⟨"java/lang/Math", "min", "(JJ)J"⟩ : MethodName) jdk_29_method_70_code 4 (some .long) :: ws) ({ frames := 0, cells := 0, slots := 0, locals := 0 } : Room)) (fun ar UU => ar = #[(.long q1), (.long q2)] ∧ Z.Warmed39 UU.vm ∧ UU.heap = h0) (fun _ _ _ _ _ => True) (fun _ UU oo UU' => ∃ vv LL, oo = .returned vv ∧ Q1 Z q1 q2 h0 n0 vv UU'.heap LL ∧ FrameEnd UU oo UU' LL ({ frames := 0, cells := 0, slots := 0, locals := 0 } : Room).cells ({ frames := 0, cells := 0, slots := 0, locals := 0 } : Room).slots) := by
  refine MetFree.of_bodySF (Jvm.Free.JP.mathPlain rfl (by decide +kernel)) hisR ?_
  intro p e s m args below meth c s₁ Bd hml0 hP hK
  obtain ⟨rfl, hZ, hh⟩ := hP
  have hx := Bd.exec
  have hby := Bd.bytes
  have hml : c.maxLocals = 4 := hml0
  have hown : s.vm.findClass "java/lang/Math" = some m.cls := findClass_of_methodNamed Bd.named
  have hnm := (name_of_methodNamed Bd.named Bd.method).1
  have X0 : Stand p l e ({ frames := 0, cells := 0, slots := 0, locals := 0 } : Room) s m #[(.long q1), (.long q2)] below meth c s₁ [] 0 0 := Stand.of_body Bd
  have e0 : s₁.heap = h0 := by rw [← hh, Bd.state]; rfl
  have N0 := Fr.nil n0
  have KC0 : Keep h0 h0 [] := Keep.refl h0 []
  have pre0 : ∀ tgt, Steps p.tables e below (s₁.setTop (mkF m 0 #[.val (.long q1), .second, .val (.long q2), .second] [])) tgt → Steps p.tables e below (s₁.setTop (entryFrame m #[(.long q1), (.long q2)] 4)) tgt := fun tgt kk => castTop (ef_rm1 m (q1) (q2)) kk
  have pre1 : ∀ tgt, Steps p.tables e below (s₁.setTop (mkF m 3 #[.val (.long q1), .second, .val (.long q2), .second] [(.int (lcmpW q1 q2))])) tgt → Steps p.tables e below (s₁.setTop (entryFrame m #[(.long q1), (.long q2)] 4)) tgt := by
    intro tgt kk
    refine pre0 tgt ?_
    refine XS.lloadN X0.here hx rfl (hb hby d1_0) rfl ?_
    show Steps p.tables e below (s₁.setTop (mkF m 1 #[.val (.long q1), .second, .val (.long q2), .second] [(.long q1)])) _
    refine XS.lloadN X0.here hx rfl (hb hby d1_1) rfl ?_
    show Steps p.tables e below (s₁.setTop (mkF m 2 #[.val (.long q1), .second, .val (.long q2), .second] [(.long q2), (.long q1)])) _
    refine XS.lcmp X0.here hx rfl (hb hby d1_2) rfl ?_
    show Steps p.tables e below (s₁.setTop (mkF m 3 #[.val (.long q1), .second, .val (.long q2), .second] [(.int (lcmpW q1 q2))])) _
    exact kk
  by_cases hc3_2 : q2 < q1
  · skip
    obtain ⟨fs, hr, hrun, hended, hW, hsame⟩ := X0.leave (v := some (.long q2)) (fun h => by rw [Bd.returns] at h; cases h)
    refine ⟨_, _, pre1 _ ?_, hrun, hended, _, _, rfl, ?_, ⟨_, rfl⟩, hW, hsame.mono (by decide) (by decide)⟩
    · skip
      refine XS.ifYes X0.here hx rfl (pc0 := 3) (pc' := 10) rfl (hb hby d1_3) rfl (XT.ll_gt_t hc3_2) (by decide) (by decide) ?_
      show Steps p.tables e below (s₁.setTop (mkF m 10 #[.val (.long q1), .second, .val (.long q2), .second] [])) _
      refine XS.lloadN X0.here hx rfl (hb hby d1_10) rfl ?_
      show Steps p.tables e below (s₁.setTop (mkF m 11 #[.val (.long q1), .second, .val (.long q2), .second] [(.long q2)])) _
      exact retOut X0 hx Bd.returns rfl (Or.inr (Or.inl ⟨rfl, rfl, _, rfl⟩)) (hb hby d1_11) hr
    · show Q1 Z q1 q2 h0 n0 _ s₁.heap _
      rw [e0]
      exact ⟨by simp [mn64, hc3_2], N0, rfl⟩
  · skip
    obtain ⟨fs, hr, hrun, hended, hW, hsame⟩ := X0.leave (v := some (.long q1)) (fun h => by rw [Bd.returns] at h; cases h)
    refine ⟨_, _, pre1 _ ?_, hrun, hended, _, _, rfl, ?_, ⟨_, rfl⟩, hW, hsame.mono (by decide) (by decide)⟩
    · skip
      refine XS.ifNo X0.here hx rfl (hb hby d1_3) rfl (XT.ll_gt_f hc3_2) ?_
      show Steps p.tables e below (s₁.setTop (mkF m 6 #[.val (.long q1), .second, .val (.long q2), .second] [])) _
      refine XS.lloadN X0.here hx rfl (hb hby d1_6) rfl ?_
      show Steps p.tables e below (s₁.setTop (mkF m 7 #[.val (.long q1), .second, .val (.long q2), .second] [(.long q1)])) _
      refine XS.goto X0.here hx rfl (pc0 := 7) (pc' := 11) rfl (hb hby d1_7) (by decide) (by decide) ?_
      show Steps p.tables e below (s₁.setTop (mkF m 11 #[.val (.long q1), .second, .val (.long q2), .second] [(.long q1)])) _
      exact retOut X0 hx Bd.returns rfl (Or.inr (Or.inl ⟨rfl, rfl, _, rfl⟩)) (hb hby d1_11) hr
    · show Q1 Z q1 q2 h0 n0 _ s₁.heap _
      rw [e0]
      exact ⟨by simp [mn64, hc3_2], N0, rfl⟩
theorem d2_0 : decode jdk_29_method_66_code 0 = .ok (.lload_n 0, 1) := by decide +kernel
theorem d2_1 : decode jdk_29_method_66_code 1 = .ok (.lload_n 2, 1) := by decide +kernel
theorem d2_2 : decode jdk_29_method_66_code 2 = .ok (.lcmp, 1) := by decide +kernel
theorem d2_3 : decode jdk_29_method_66_code 3 = .ok (.ifCond .lt 7, 3) := by decide +kernel
theorem d2_6 : decode jdk_29_method_66_code 6 = .ok (.lload_n 0, 1) := by decide +kernel
theorem d2_7 : decode jdk_29_method_66_code 7 = .ok (.goto 4, 3) := by decide +kernel
theorem d2_10 : decode jdk_29_method_66_code 10 = .ok (.lload_n 2, 1) := by decide +kernel
theorem d2_11 : decode jdk_29_method_66_code 11 = .ok (.lreturn, 1) := by decide +kernel
theorem ef_rm2 (m : MethodId) (x0 : Int64) (x1 : Int64) : entryFrame m #[(.long x0), (.long x1)] 4 = mkF m 0 #[.val (.long x0), .second, .val (.long x1), .second] [] := by first | (simp [entryFrame, mkF, argsToLocals, Value.category]; done) | rfl
def Q2 (Z : State) (q1 : Int64) (q2 : Int64) (h0 : Heap) (n0 : Nat) (v : Option Value) (h : Heap) (L : List Loc) : Prop := v = some (.long (mx64 q1 q2)) ∧ Fr n0 L ∧ h = h0
set_option maxRecDepth 65536 in
set_option maxHeartbeats 40000000 in
theorem rm2 (l : Launch) (Z : State) (a0 : Array Value) (hw : ∀ d ∈ tables_1, d.before a0 Z = true) (ws : List Jvm.Cond) (q1 : Int64) (q2 : Int64) (h0 : Heap) (n0 : Nat) (Z0 : n0 ≤ h0.size) :
    MetFree l (⟨"java/lang/Math", "max", "(JJ)J"⟩ : MethodName) (head1 (Jvm.Cond.code (⟨"java/lang/Math", "max", "(JJ)J"⟩ : MethodName) jdk_29_method_66_code 4 (some .long) :: ws) ({ frames := 0, cells := 0, slots := 0, locals := 0 } : Room)) (fun ar UU => ar = #[(.long q1), (.long q2)] ∧ Z.Warmed39 UU.vm ∧ UU.heap = h0) (fun _ _ _ _ _ => True) (fun _ UU oo UU' => ∃ vv LL, oo = .returned vv ∧ Q2 Z q1 q2 h0 n0 vv UU'.heap LL ∧ FrameEnd UU oo UU' LL ({ frames := 0, cells := 0, slots := 0, locals := 0 } : Room).cells ({ frames := 0, cells := 0, slots := 0, locals := 0 } : Room).slots) := by
  refine MetFree.of_bodySF (Jvm.Free.JP.mathPlain rfl (by decide +kernel)) hisR ?_
  intro p e s m args below meth c s₁ Bd hml0 hP hK
  obtain ⟨rfl, hZ, hh⟩ := hP
  have hx := Bd.exec
  have hby := Bd.bytes
  have hml : c.maxLocals = 4 := hml0
  have hown : s.vm.findClass "java/lang/Math" = some m.cls := findClass_of_methodNamed Bd.named
  have hnm := (name_of_methodNamed Bd.named Bd.method).1
  have X0 : Stand p l e ({ frames := 0, cells := 0, slots := 0, locals := 0 } : Room) s m #[(.long q1), (.long q2)] below meth c s₁ [] 0 0 := Stand.of_body Bd
  have e0 : s₁.heap = h0 := by rw [← hh, Bd.state]; rfl
  have N0 := Fr.nil n0
  have KC0 : Keep h0 h0 [] := Keep.refl h0 []
  have pre0 : ∀ tgt, Steps p.tables e below (s₁.setTop (mkF m 0 #[.val (.long q1), .second, .val (.long q2), .second] [])) tgt → Steps p.tables e below (s₁.setTop (entryFrame m #[(.long q1), (.long q2)] 4)) tgt := fun tgt kk => castTop (ef_rm2 m (q1) (q2)) kk
  have pre1 : ∀ tgt, Steps p.tables e below (s₁.setTop (mkF m 3 #[.val (.long q1), .second, .val (.long q2), .second] [(.int (lcmpW q1 q2))])) tgt → Steps p.tables e below (s₁.setTop (entryFrame m #[(.long q1), (.long q2)] 4)) tgt := by
    intro tgt kk
    refine pre0 tgt ?_
    refine XS.lloadN X0.here hx rfl (hb hby d2_0) rfl ?_
    show Steps p.tables e below (s₁.setTop (mkF m 1 #[.val (.long q1), .second, .val (.long q2), .second] [(.long q1)])) _
    refine XS.lloadN X0.here hx rfl (hb hby d2_1) rfl ?_
    show Steps p.tables e below (s₁.setTop (mkF m 2 #[.val (.long q1), .second, .val (.long q2), .second] [(.long q2), (.long q1)])) _
    refine XS.lcmp X0.here hx rfl (hb hby d2_2) rfl ?_
    show Steps p.tables e below (s₁.setTop (mkF m 3 #[.val (.long q1), .second, .val (.long q2), .second] [(.int (lcmpW q1 q2))])) _
    exact kk
  by_cases hc3_2 : q1 < q2
  · skip
    obtain ⟨fs, hr, hrun, hended, hW, hsame⟩ := X0.leave (v := some (.long q2)) (fun h => by rw [Bd.returns] at h; cases h)
    refine ⟨_, _, pre1 _ ?_, hrun, hended, _, _, rfl, ?_, ⟨_, rfl⟩, hW, hsame.mono (by decide) (by decide)⟩
    · skip
      refine XS.ifYes X0.here hx rfl (pc0 := 3) (pc' := 10) rfl (hb hby d2_3) rfl (XT.ll_lt_t hc3_2) (by decide) (by decide) ?_
      show Steps p.tables e below (s₁.setTop (mkF m 10 #[.val (.long q1), .second, .val (.long q2), .second] [])) _
      refine XS.lloadN X0.here hx rfl (hb hby d2_10) rfl ?_
      show Steps p.tables e below (s₁.setTop (mkF m 11 #[.val (.long q1), .second, .val (.long q2), .second] [(.long q2)])) _
      exact retOut X0 hx Bd.returns rfl (Or.inr (Or.inl ⟨rfl, rfl, _, rfl⟩)) (hb hby d2_11) hr
    · show Q2 Z q1 q2 h0 n0 _ s₁.heap _
      rw [e0]
      exact ⟨by simp [mx64, hc3_2], N0, rfl⟩
  · skip
    obtain ⟨fs, hr, hrun, hended, hW, hsame⟩ := X0.leave (v := some (.long q1)) (fun h => by rw [Bd.returns] at h; cases h)
    refine ⟨_, _, pre1 _ ?_, hrun, hended, _, _, rfl, ?_, ⟨_, rfl⟩, hW, hsame.mono (by decide) (by decide)⟩
    · skip
      refine XS.ifNo X0.here hx rfl (hb hby d2_3) rfl (XT.ll_lt_f hc3_2) ?_
      show Steps p.tables e below (s₁.setTop (mkF m 6 #[.val (.long q1), .second, .val (.long q2), .second] [])) _
      refine XS.lloadN X0.here hx rfl (hb hby d2_6) rfl ?_
      show Steps p.tables e below (s₁.setTop (mkF m 7 #[.val (.long q1), .second, .val (.long q2), .second] [(.long q1)])) _
      refine XS.goto X0.here hx rfl (pc0 := 7) (pc' := 11) rfl (hb hby d2_7) (by decide) (by decide) ?_
      show Steps p.tables e below (s₁.setTop (mkF m 11 #[.val (.long q1), .second, .val (.long q2), .second] [(.long q1)])) _
      exact retOut X0 hx Bd.returns rfl (Or.inr (Or.inl ⟨rfl, rfl, _, rfl⟩)) (hb hby d2_11) hr
    · show Q2 Z q1 q2 h0 n0 _ s₁.heap _
      rw [e0]
      exact ⟨by simp [mx64, hc3_2], N0, rfl⟩
theorem d3_0 : decode prog_13_method_3_code 0 = .ok (.lload_n 0, 1) := by decide +kernel
theorem d3_1 : decode prog_13_method_3_code 1 = .ok (.lconst 1, 1) := by decide +kernel
theorem d3_2 : decode prog_13_method_3_code 2 = .ok (.lcmp, 1) := by decide +kernel
theorem d3_3 : decode prog_13_method_3_code 3 = .ok (.ifCond .lt 7, 3) := by decide +kernel
theorem d3_6 : decode prog_13_method_3_code 6 = .ok (.iconst 1, 1) := by decide +kernel
theorem d3_7 : decode prog_13_method_3_code 7 = .ok (.goto 4, 3) := by decide +kernel
theorem d3_10 : decode prog_13_method_3_code 10 = .ok (.iconst 0, 1) := by decide +kernel
theorem d3_11 : decode prog_13_method_3_code 11 = .ok (.ireturn, 1) := by decide +kernel
theorem pn_3 : plainName "com/example/leasehold/leasehold/LeaseRequest" = true := by first | (simp [plainName, overriddenIn]; done) | decide +kernel
theorem ef_rm3 (m : MethodId) (x0 : Int64) : entryFrame m #[(.long x0)] 2 = mkF m 0 #[.val (.long x0), .second] [] := by first | (simp [entryFrame, mkF, argsToLocals, Value.category]; done) | rfl
def Q3 (Z : State) (q1 : Int64) (h0 : Heap) (n0 : Nat) (v : Option Value) (h : Heap) (L : List Loc) : Prop := v = some (.int (bI (¬ (q1 < (1 : Int64))))) ∧ Fr n0 L ∧ h = h0
set_option maxRecDepth 65536 in
set_option maxHeartbeats 40000000 in
theorem rm3 (l : Launch) (Z : State) (a0 : Array Value) (hw : ∀ d ∈ tables_1, d.before a0 Z = true) (ws : List Jvm.Cond) (q1 : Int64) (h0 : Heap) (n0 : Nat) (Z0 : n0 ≤ h0.size) :
    MetFree l (⟨"com/example/leasehold/leasehold/LeaseRequest", "isValidTtl", "(J)Z"⟩ : MethodName) (head1 (Jvm.Cond.code (⟨"com/example/leasehold/leasehold/LeaseRequest", "isValidTtl", "(J)Z"⟩ : MethodName) prog_13_method_3_code 2 (some .boolean) :: ws) ({ frames := 0, cells := 0, slots := 0, locals := 0 } : Room)) (fun ar UU => ar = #[(.long q1)] ∧ Z.Warmed39 UU.vm ∧ UU.heap = h0) (fun _ _ _ _ _ => True) (fun _ UU oo UU' => ∃ vv LL, oo = .returned vv ∧ Q3 Z q1 h0 n0 vv UU'.heap LL ∧ FrameEnd UU oo UU' LL ({ frames := 0, cells := 0, slots := 0, locals := 0 } : Room).cells ({ frames := 0, cells := 0, slots := 0, locals := 0 } : Room).slots) := by
  refine MetFree.of_bodySF (plainFor_of_name pn_3) hisR ?_
  intro p e s m args below meth c s₁ Bd hml0 hP hK
  obtain ⟨rfl, hZ, hh⟩ := hP
  have hx := Bd.exec
  have hby := Bd.bytes
  have hml : c.maxLocals = 2 := hml0
  have hown : s.vm.findClass "com/example/leasehold/leasehold/LeaseRequest" = some m.cls := findClass_of_methodNamed Bd.named
  have hnm := (name_of_methodNamed Bd.named Bd.method).1
  have X0 : Stand p l e ({ frames := 0, cells := 0, slots := 0, locals := 0 } : Room) s m #[(.long q1)] below meth c s₁ [] 0 0 := Stand.of_body Bd
  have e0 : s₁.heap = h0 := by rw [← hh, Bd.state]; rfl
  have N0 := Fr.nil n0
  have KC0 : Keep h0 h0 [] := Keep.refl h0 []
  have pre0 : ∀ tgt, Steps p.tables e below (s₁.setTop (mkF m 0 #[.val (.long q1), .second] [])) tgt → Steps p.tables e below (s₁.setTop (entryFrame m #[(.long q1)] 2)) tgt := fun tgt kk => castTop (ef_rm3 m (q1)) kk
  have pre1 : ∀ tgt, Steps p.tables e below (s₁.setTop (mkF m 3 #[.val (.long q1), .second] [(.int (lcmpW q1 (1 : Int64)))])) tgt → Steps p.tables e below (s₁.setTop (entryFrame m #[(.long q1)] 2)) tgt := by
    intro tgt kk
    refine pre0 tgt ?_
    refine XS.lloadN X0.here hx rfl (hb hby d3_0) rfl ?_
    show Steps p.tables e below (s₁.setTop (mkF m 1 #[.val (.long q1), .second] [(.long q1)])) _
    refine XS.lconst X0.here hx rfl (hb hby d3_1) ?_
    show Steps p.tables e below (s₁.setTop (mkF m 2 #[.val (.long q1), .second] [(.long (1 : Int64)), (.long q1)])) _
    refine XS.lcmp X0.here hx rfl (hb hby d3_2) rfl ?_
    show Steps p.tables e below (s₁.setTop (mkF m 3 #[.val (.long q1), .second] [(.int (lcmpW q1 (1 : Int64)))])) _
    exact kk
  obtain ⟨T3, lo3, X3, N3, e3, pre3⟩ : ∃ (T' : State) (lo : List Loc), Stand p l e ({ frames := 0, cells := 0, slots := 0, locals := 0 } : Room) s m #[(.long q1)] below meth c T' lo 0 0 ∧ Fr n0 lo ∧ T'.heap = h0 ∧ ∀ tgt, Steps p.tables e below (T'.setTop (mkF m 11 #[.val (.long q1), .second] [(.int (bI (¬ (q1 < (1 : Int64)))))])) tgt → Steps p.tables e below (s₁.setTop (entryFrame m #[(.long q1)] 2)) tgt := by
    by_cases hc3_2 : q1 < (1 : Int64)
    · skip
      refine ⟨s₁, _, X0, N0, e0, fun tgt kk => ?_⟩
      have kq4 : ((.int (bI (¬ (q1 < (1 : Int64))))) : Value) = (.int (0 : Int32)) := (congrArg Value.int (bI_f (not_not_intro hc3_2)))
      rw [kq4] at kk
      refine pre1 tgt ?_
      refine XS.ifYes X0.here hx rfl (pc0 := 3) (pc' := 10) rfl (hb hby d3_3) rfl (XT.ll_lt_t hc3_2) (by decide) (by decide) ?_
      show Steps p.tables e below (s₁.setTop (mkF m 10 #[.val (.long q1), .second] [])) _
      refine XS.iconst X0.here hx rfl (hb hby d3_10) ?_
      show Steps p.tables e below (s₁.setTop (mkF m 11 #[.val (.long q1), .second] [(.int (0 : Int32))])) _
      exact kk
    · skip
      refine ⟨s₁, _, X0, N0, e0, fun tgt kk => ?_⟩
      have kq5 : ((.int (bI (¬ (q1 < (1 : Int64))))) : Value) = (.int (1 : Int32)) := (congrArg Value.int (bI_t hc3_2))
      rw [kq5] at kk
      refine pre1 tgt ?_
      refine XS.ifNo X0.here hx rfl (hb hby d3_3) rfl (XT.ll_lt_f hc3_2) ?_
      show Steps p.tables e below (s₁.setTop (mkF m 6 #[.val (.long q1), .second] [])) _
      refine XS.iconst X0.here hx rfl (hb hby d3_6) ?_
      show Steps p.tables e below (s₁.setTop (mkF m 7 #[.val (.long q1), .second] [(.int (1 : Int32))])) _
      refine XS.goto X0.here hx rfl (pc0 := 7) (pc' := 11) rfl (hb hby d3_7) (by decide) (by decide) ?_
      show Steps p.tables e below (s₁.setTop (mkF m 11 #[.val (.long q1), .second] [(.int (1 : Int32))])) _
      exact kk
  obtain ⟨fs, hr, hrun, hended, hW, hsame⟩ := X3.leave (v := some (.int (nar .boolean (bI (¬ (q1 < (1 : Int64))))))) (fun h => by rw [Bd.returns] at h; cases h)
  refine ⟨_, _, pre3 _ ?_, hrun, hended, _, _, rfl, ?_, ⟨_, rfl⟩, hW, hsame.mono (by decide) (by decide)⟩
  · skip
    exact retN X3 hx (t := .boolean) Bd.returns (by simp) (hb hby d3_11) hr
  · show Q3 Z q1 h0 n0 _ T3.heap _
    rw [e3]
    exact ⟨bI_ret, N3, rfl⟩
theorem pn_0 : plainName "com/example/leasehold/leasehold/LeaseRequestIsValidTtlPinLaw" = true := by first | (simp [plainName, overriddenIn]; done) | decide +kernel
theorem pd__JJ_J : parseMethodDescriptor "(JJ)J" = some ⟨[.long, .long], some .long⟩ := by decide +kernel
theorem pd__J_Z : parseMethodDescriptor "(J)Z" = some ⟨[.long], some .boolean⟩ := by decide +kernel
theorem ef_rm0 (m : MethodId) (x0 : Int64) (x1 : Int64) : entryFrame m #[(.long x0), (.long x1)] maxLocals = mkF m 0 #[.val (.long x0), .second, .val (.long x1), .second, .unset, .unset, .unset, .unset, .unset, .unset, .unset, .unset] [] := by first | (simp [entryFrame, mkF, argsToLocals, Value.category, maxLocals]; done) | rfl
def Q0 (Z : State) (q1 : Int64) (q2 : Int64) (h0 : Heap) (n0 : Nat) (v : Option Value) (h : Heap) (L : List Loc) : Prop := v = some (.int (1 : Int32)) ∧ Fr n0 L
set_option maxRecDepth 65536 in
set_option maxHeartbeats 40000000 in
theorem rm0 (l : Launch) (Z : State) (a0 : Array Value) (hw : ∀ d ∈ tables_1, d.before a0 Z = true) (ws : List Jvm.Cond) (q1 : Int64) (q2 : Int64) (h0 : Heap) (n0 : Nat) (Z0 : n0 ≤ h0.size) :
    MetFree l x (head1 (Jvm.Cond.code x code maxLocals ret :: ws) room_1) (fun ar UU => ar = #[(.long q1), (.long q2)] ∧ Z.Warmed39 UU.vm ∧ UU.heap = h0) (fun _ _ _ _ _ => True) (fun _ UU oo UU' => ∃ vv LL, oo = .returned vv ∧ Q0 Z q1 q2 h0 n0 vv UU'.heap LL ∧ FrameEnd UU oo UU' LL room_1.cells room_1.slots) := by
  refine MetFree.of_bodySF (plainFor_of_name pn_0) hisR ?_
  intro p e s m args below meth c s₁ Bd hml0 hP hK
  obtain ⟨rfl, hZ, hh⟩ := hP
  have hx := Bd.exec
  have hby := Bd.bytes
  have hml : c.maxLocals = 12 := hml0
  have hown : s.vm.findClass "com/example/leasehold/leasehold/LeaseRequestIsValidTtlPinLaw" = some m.cls := findClass_of_methodNamed Bd.named
  have hnm := (name_of_methodNamed Bd.named Bd.method).1
  have X0 : Stand p l e room_1 s m #[(.long q1), (.long q2)] below meth c s₁ [] 0 0 := Stand.of_body Bd
  have e0 : s₁.heap = h0 := by rw [← hh, Bd.state]; rfl
  have N0 := Fr.nil n0
  have KC0 : Keep h0 h0 [] := Keep.refl h0 []
  have pre0 : ∀ tgt, Steps p.tables e below (s₁.setTop (mkF m 0 #[.val (.long q1), .second, .val (.long q2), .second, .unset, .unset, .unset, .unset, .unset, .unset, .unset, .unset] [])) tgt → Steps p.tables e below (s₁.setTop (entryFrame m #[(.long q1), (.long q2)] maxLocals)) tgt := fun tgt kk => castTop (ef_rm0 m (q1) (q2)) kk
  have pre1 : ∀ tgt, Steps p.tables e below (s₁.setTop (mkF m 2 #[.val (.long q1), .second, .val (.long q2), .second, .unset, .unset, .unset, .unset, .unset, .unset, .unset, .unset] [(.long q2), (.long q1)])) tgt → Steps p.tables e below (s₁.setTop (entryFrame m #[(.long q1), (.long q2)] maxLocals)) tgt := by
    intro tgt kk
    refine pre0 tgt ?_
    refine XS.lloadN X0.here hx rfl (hb hby at_0) rfl ?_
    show Steps p.tables e below (s₁.setTop (mkF m 1 #[.val (.long q1), .second, .val (.long q2), .second, .unset, .unset, .unset, .unset, .unset, .unset, .unset, .unset] [(.long q1)])) _
    refine XS.lloadN X0.here hx rfl (hb hby at_1) rfl ?_
    show Steps p.tables e below (s₁.setTop (mkF m 2 #[.val (.long q1), .second, .val (.long q2), .second, .unset, .unset, .unset, .unset, .unset, .unset, .unset, .unset] [(.long q2), (.long q1)])) _
    exact kk
  obtain ⟨_, _, ⟨T2, L2, k2, n2⟩, -, X2, ⟨Lc2, hQ2, l2, y2, z2⟩, st2⟩ := Jvm.LawKit.callS X0 hx (y := (⟨"java/lang/Math", "min", "(JJ)J"⟩ : MethodName)) hown (mvT hZ (hw _ (List.mem_of_getElem? (i := 0) rfl))) (mvT hZ (hw _ (List.mem_of_getElem? (i := 1) rfl))) (mvT hZ (hw _ (List.mem_of_getElem? (i := 2) rfl))) (mvT hZ (hw _ (List.mem_of_getElem? (i := 3) rfl))) (by decide) (backOf (W := 0) (rm1 l Z a0 hw [] q1 q2 h0 n0 Z0) hZ (hw _ (List.mem_of_getElem? (i := 3) rfl)) (hw _ (List.mem_of_getElem? (i := 2) rfl)) (by decide) (by decide)) (g := (mkF m 2 #[.val (.long q1), .second, .val (.long q2), .second, .unset, .unset, .unset, .unset, .unset, .unset, .unset, .unset] [(.long q2), (.long q1)])) rfl (by rw [hml]; rfl) (argsL := [(.long q1), (.long q2)]) (rest := []) (lenOf pd__JJ_J rfl) rfl (by show 2 * 0 + _ ≤ _; exact Nat.le_of_eq rfl) (hb hby at_2) (fun _ _ => ⟨rfl, e0, (by decide : 0 + 0 ≤ _), (by decide : 0 + 0 ≤ _)⟩)
  dsimp only [Pt.U, Pt.locs, Pt.cells, Pt.slots] at X2 l2 y2 z2 st2 hQ2
  subst l2 y2 z2
  obtain ⟨rfl, N2q, hh2⟩ := hQ2
  have N2 := Fr.app N0 N2q
  have pre3 : ∀ tgt, Steps p.tables e below (T2.setTop (mkF m 9 #[.val (.long q1), .second, .val (.long q2), .second, .val (.long (mn64 q1 q2)), .second, .unset, .unset, .unset, .unset, .unset, .unset] [(.long q2), (.long q1)])) tgt → Steps p.tables e below (s₁.setTop (entryFrame m #[(.long q1), (.long q2)] maxLocals)) tgt := by
    intro tgt kk
    refine pre1 tgt ?_
    refine st2 _ ?_
    show Steps p.tables e below (T2.setTop (mkF m 5 #[.val (.long q1), .second, .val (.long q2), .second, .unset, .unset, .unset, .unset, .unset, .unset, .unset, .unset] [(.long (mn64 q1 q2))])) _
    refine XS.lstore X2.here hx rfl (hb hby at_5) rfl (l' := #[.val (.long q1), .second, .val (.long q2), .second, .val (.long (mn64 q1 q2)), .second, .unset, .unset, .unset, .unset, .unset, .unset]) rfl ?_
    show Steps p.tables e below (T2.setTop (mkF m 7 #[.val (.long q1), .second, .val (.long q2), .second, .val (.long (mn64 q1 q2)), .second, .unset, .unset, .unset, .unset, .unset, .unset] [])) _
    refine XS.lloadN X2.here hx rfl (hb hby at_7) rfl ?_
    show Steps p.tables e below (T2.setTop (mkF m 8 #[.val (.long q1), .second, .val (.long q2), .second, .val (.long (mn64 q1 q2)), .second, .unset, .unset, .unset, .unset, .unset, .unset] [(.long q1)])) _
    refine XS.lloadN X2.here hx rfl (hb hby at_8) rfl ?_
    show Steps p.tables e below (T2.setTop (mkF m 9 #[.val (.long q1), .second, .val (.long q2), .second, .val (.long (mn64 q1 q2)), .second, .unset, .unset, .unset, .unset, .unset, .unset] [(.long q2), (.long q1)])) _
    exact kk
  obtain ⟨_, _, ⟨T4, L4, k4, n4⟩, -, X4, ⟨Lc4, hQ4, l4, y4, z4⟩, st4⟩ := Jvm.LawKit.callS X2 hx (y := (⟨"java/lang/Math", "max", "(JJ)J"⟩ : MethodName)) hown (mvT hZ (hw _ (List.mem_of_getElem? (i := 4) rfl))) (mvT hZ (hw _ (List.mem_of_getElem? (i := 5) rfl))) (mvT hZ (hw _ (List.mem_of_getElem? (i := 2) rfl))) (mvT hZ (hw _ (List.mem_of_getElem? (i := 6) rfl))) (by decide) (backOf (W := 0) (rm2 l Z a0 hw [] q1 q2 h0 n0 Z0) hZ (hw _ (List.mem_of_getElem? (i := 6) rfl)) (hw _ (List.mem_of_getElem? (i := 2) rfl)) (by decide) (by decide)) (g := (mkF m 9 #[.val (.long q1), .second, .val (.long q2), .second, .val (.long (mn64 q1 q2)), .second, .unset, .unset, .unset, .unset, .unset, .unset] [(.long q2), (.long q1)])) rfl (by rw [hml]; rfl) (argsL := [(.long q1), (.long q2)]) (rest := []) (lenOf pd__JJ_J rfl) rfl (by show 2 * 0 + _ ≤ _; exact Nat.le_of_eq rfl) (hb hby at_9) (fun _ _ => ⟨rfl, hh2, (by decide : 0 + 0 ≤ _), (by decide : 0 + 0 ≤ _)⟩)
  dsimp only [Pt.U, Pt.locs, Pt.cells, Pt.slots] at X4 l4 y4 z4 st4 hQ4
  subst l4 y4 z4
  obtain ⟨rfl, N4q, hh4⟩ := hQ4
  have N4 := Fr.app N2 N4q
  have pre5 : ∀ tgt, Steps p.tables e below (T4.setTop (mkF m 16 #[.val (.long q1), .second, .val (.long q2), .second, .val (.long (mn64 q1 q2)), .second, .val (.long (mx64 q1 q2)), .second, .unset, .unset, .unset, .unset] [(.long (mn64 q1 q2))])) tgt → Steps p.tables e below (s₁.setTop (entryFrame m #[(.long q1), (.long q2)] maxLocals)) tgt := by
    intro tgt kk
    refine pre3 tgt ?_
    refine st4 _ ?_
    show Steps p.tables e below (T4.setTop (mkF m 12 #[.val (.long q1), .second, .val (.long q2), .second, .val (.long (mn64 q1 q2)), .second, .unset, .unset, .unset, .unset, .unset, .unset] [(.long (mx64 q1 q2))])) _
    refine XS.lstore X4.here hx rfl (hb hby at_12) rfl (l' := #[.val (.long q1), .second, .val (.long q2), .second, .val (.long (mn64 q1 q2)), .second, .val (.long (mx64 q1 q2)), .second, .unset, .unset, .unset, .unset]) rfl ?_
    show Steps p.tables e below (T4.setTop (mkF m 14 #[.val (.long q1), .second, .val (.long q2), .second, .val (.long (mn64 q1 q2)), .second, .val (.long (mx64 q1 q2)), .second, .unset, .unset, .unset, .unset] [])) _
    refine XS.lload X4.here hx rfl (hb hby at_14) rfl ?_
    show Steps p.tables e below (T4.setTop (mkF m 16 #[.val (.long q1), .second, .val (.long q2), .second, .val (.long (mn64 q1 q2)), .second, .val (.long (mx64 q1 q2)), .second, .unset, .unset, .unset, .unset] [(.long (mn64 q1 q2))])) _
    exact kk
  obtain ⟨_, _, ⟨T6, L6, k6, n6⟩, -, X6, ⟨Lc6, hQ6, l6, y6, z6⟩, st6⟩ := Jvm.LawKit.callS X4 hx (y := (⟨"com/example/leasehold/leasehold/LeaseRequest", "isValidTtl", "(J)Z"⟩ : MethodName)) hown (mvT hZ (hw _ (List.mem_of_getElem? (i := 7) rfl))) (mvT hZ (hw _ (List.mem_of_getElem? (i := 8) rfl))) (mvT hZ (hw _ (List.mem_of_getElem? (i := 9) rfl))) (mvT hZ (hw _ (List.mem_of_getElem? (i := 10) rfl))) (by decide) (backOf (W := 0) (rm3 l Z a0 hw [] (mn64 q1 q2) h0 n0 Z0) hZ (hw _ (List.mem_of_getElem? (i := 10) rfl)) (hw _ (List.mem_of_getElem? (i := 9) rfl)) (by decide) (by decide)) (g := (mkF m 16 #[.val (.long q1), .second, .val (.long q2), .second, .val (.long (mn64 q1 q2)), .second, .val (.long (mx64 q1 q2)), .second, .unset, .unset, .unset, .unset] [(.long (mn64 q1 q2))])) rfl (by rw [hml]; rfl) (argsL := [(.long (mn64 q1 q2))]) (rest := []) (lenOf pd__J_Z rfl) rfl (by show 2 * 0 + _ ≤ _; exact Nat.le_of_eq rfl) (hb hby at_16) (fun _ _ => ⟨rfl, hh4, (by decide : 0 + 0 ≤ _), (by decide : 0 + 0 ≤ _)⟩)
  dsimp only [Pt.U, Pt.locs, Pt.cells, Pt.slots] at X6 l6 y6 z6 st6 hQ6
  subst l6 y6 z6
  obtain ⟨rfl, N6q, hh6⟩ := hQ6
  have N6 := Fr.app N4 N6q
  have pre7 : ∀ tgt, Steps p.tables e below (T6.setTop (mkF m 23 #[.val (.long q1), .second, .val (.long q2), .second, .val (.long (mn64 q1 q2)), .second, .val (.long (mx64 q1 q2)), .second, .val (.int (bI (¬ ((mn64 q1 q2) < (1 : Int64))))), .unset, .unset, .unset] [(.long (mx64 q1 q2))])) tgt → Steps p.tables e below (s₁.setTop (entryFrame m #[(.long q1), (.long q2)] maxLocals)) tgt := by
    intro tgt kk
    refine pre5 tgt ?_
    refine st6 _ ?_
    show Steps p.tables e below (T6.setTop (mkF m 19 #[.val (.long q1), .second, .val (.long q2), .second, .val (.long (mn64 q1 q2)), .second, .val (.long (mx64 q1 q2)), .second, .unset, .unset, .unset, .unset] [(.int (bI (¬ ((mn64 q1 q2) < (1 : Int64)))))])) _
    refine XS.istore X6.here hx rfl (hb hby at_19) rfl (l' := #[.val (.long q1), .second, .val (.long q2), .second, .val (.long (mn64 q1 q2)), .second, .val (.long (mx64 q1 q2)), .second, .val (.int (bI (¬ ((mn64 q1 q2) < (1 : Int64))))), .unset, .unset, .unset]) rfl ?_
    show Steps p.tables e below (T6.setTop (mkF m 21 #[.val (.long q1), .second, .val (.long q2), .second, .val (.long (mn64 q1 q2)), .second, .val (.long (mx64 q1 q2)), .second, .val (.int (bI (¬ ((mn64 q1 q2) < (1 : Int64))))), .unset, .unset, .unset] [])) _
    refine XS.lload X6.here hx rfl (hb hby at_21) rfl ?_
    show Steps p.tables e below (T6.setTop (mkF m 23 #[.val (.long q1), .second, .val (.long q2), .second, .val (.long (mn64 q1 q2)), .second, .val (.long (mx64 q1 q2)), .second, .val (.int (bI (¬ ((mn64 q1 q2) < (1 : Int64))))), .unset, .unset, .unset] [(.long (mx64 q1 q2))])) _
    exact kk
  obtain ⟨_, _, ⟨T8, L8, k8, n8⟩, -, X8, ⟨Lc8, hQ8, l8, y8, z8⟩, st8⟩ := Jvm.LawKit.callS X6 hx (y := (⟨"com/example/leasehold/leasehold/LeaseRequest", "isValidTtl", "(J)Z"⟩ : MethodName)) hown (mvT hZ (hw _ (List.mem_of_getElem? (i := 7) rfl))) (mvT hZ (hw _ (List.mem_of_getElem? (i := 8) rfl))) (mvT hZ (hw _ (List.mem_of_getElem? (i := 9) rfl))) (mvT hZ (hw _ (List.mem_of_getElem? (i := 10) rfl))) (by decide) (backOf (W := 0) (rm3 l Z a0 hw [] (mx64 q1 q2) h0 n0 Z0) hZ (hw _ (List.mem_of_getElem? (i := 10) rfl)) (hw _ (List.mem_of_getElem? (i := 9) rfl)) (by decide) (by decide)) (g := (mkF m 23 #[.val (.long q1), .second, .val (.long q2), .second, .val (.long (mn64 q1 q2)), .second, .val (.long (mx64 q1 q2)), .second, .val (.int (bI (¬ ((mn64 q1 q2) < (1 : Int64))))), .unset, .unset, .unset] [(.long (mx64 q1 q2))])) rfl (by rw [hml]; rfl) (argsL := [(.long (mx64 q1 q2))]) (rest := []) (lenOf pd__J_Z rfl) rfl (by show 2 * 0 + _ ≤ _; exact Nat.le_of_eq rfl) (hb hby at_23) (fun _ _ => ⟨rfl, hh6, (by decide : 0 + 0 ≤ _), (by decide : 0 + 0 ≤ _)⟩)
  dsimp only [Pt.U, Pt.locs, Pt.cells, Pt.slots] at X8 l8 y8 z8 st8 hQ8
  subst l8 y8 z8
  obtain ⟨rfl, N8q, hh8⟩ := hQ8
  have N8 := Fr.app N6 N8q
  have pre9 : ∀ tgt, Steps p.tables e below (T8.setTop (mkF m 30 #[.val (.long q1), .second, .val (.long q2), .second, .val (.long (mn64 q1 q2)), .second, .val (.long (mx64 q1 q2)), .second, .val (.int (bI (¬ ((mn64 q1 q2) < (1 : Int64))))), .val (.int (bI (¬ ((mx64 q1 q2) < (1 : Int64))))), .unset, .unset] [(.int (bI (¬ ((mn64 q1 q2) < (1 : Int64)))))])) tgt → Steps p.tables e below (s₁.setTop (entryFrame m #[(.long q1), (.long q2)] maxLocals)) tgt := by
    intro tgt kk
    refine pre7 tgt ?_
    refine st8 _ ?_
    show Steps p.tables e below (T8.setTop (mkF m 26 #[.val (.long q1), .second, .val (.long q2), .second, .val (.long (mn64 q1 q2)), .second, .val (.long (mx64 q1 q2)), .second, .val (.int (bI (¬ ((mn64 q1 q2) < (1 : Int64))))), .unset, .unset, .unset] [(.int (bI (¬ ((mx64 q1 q2) < (1 : Int64)))))])) _
    refine XS.istore X8.here hx rfl (hb hby at_26) rfl (l' := #[.val (.long q1), .second, .val (.long q2), .second, .val (.long (mn64 q1 q2)), .second, .val (.long (mx64 q1 q2)), .second, .val (.int (bI (¬ ((mn64 q1 q2) < (1 : Int64))))), .val (.int (bI (¬ ((mx64 q1 q2) < (1 : Int64))))), .unset, .unset]) rfl ?_
    show Steps p.tables e below (T8.setTop (mkF m 28 #[.val (.long q1), .second, .val (.long q2), .second, .val (.long (mn64 q1 q2)), .second, .val (.long (mx64 q1 q2)), .second, .val (.int (bI (¬ ((mn64 q1 q2) < (1 : Int64))))), .val (.int (bI (¬ ((mx64 q1 q2) < (1 : Int64))))), .unset, .unset] [])) _
    refine XS.iload X8.here hx rfl (hb hby at_28) rfl ?_
    show Steps p.tables e below (T8.setTop (mkF m 30 #[.val (.long q1), .second, .val (.long q2), .second, .val (.long (mn64 q1 q2)), .second, .val (.long (mx64 q1 q2)), .second, .val (.int (bI (¬ ((mn64 q1 q2) < (1 : Int64))))), .val (.int (bI (¬ ((mx64 q1 q2) < (1 : Int64))))), .unset, .unset] [(.int (bI (¬ ((mn64 q1 q2) < (1 : Int64)))))])) _
    exact kk
  obtain ⟨T13, lo13, X13, N13, e13, pre13⟩ : ∃ (T' : State) (lo : List Loc), Stand p l e room_1 s m #[(.long q1), (.long q2)] below meth c T' lo 0 0 ∧ Fr n0 lo ∧ T'.heap = h0 ∧ ∀ tgt, Steps p.tables e below (T'.setTop (mkF m 43 #[.val (.long q1), .second, .val (.long q2), .second, .val (.long (mn64 q1 q2)), .second, .val (.long (mx64 q1 q2)), .second, .val (.int (bI (¬ ((mn64 q1 q2) < (1 : Int64))))), .val (.int (bI (¬ ((mx64 q1 q2) < (1 : Int64))))), .unset, .unset] [(.int (bI ((¬ ((mn64 q1 q2) < (1 : Int64))) → (¬ ((mx64 q1 q2) < (1 : Int64))))))])) tgt → Steps p.tables e below (s₁.setTop (entryFrame m #[(.long q1), (.long q2)] maxLocals)) tgt := by
    by_cases hc30_10 : ¬ ((mn64 q1 q2) < (1 : Int64))
    · skip
      have pre11 : ∀ tgt, Steps p.tables e below (T8.setTop (mkF m 35 #[.val (.long q1), .second, .val (.long q2), .second, .val (.long (mn64 q1 q2)), .second, .val (.long (mx64 q1 q2)), .second, .val (.int (bI (¬ ((mn64 q1 q2) < (1 : Int64))))), .val (.int (bI (¬ ((mx64 q1 q2) < (1 : Int64))))), .unset, .unset] [(.int (bI (¬ ((mx64 q1 q2) < (1 : Int64)))))])) tgt → Steps p.tables e below (s₁.setTop (entryFrame m #[(.long q1), (.long q2)] maxLocals)) tgt := by
        intro tgt kk
        refine pre9 tgt ?_
        refine XS.ifNo X8.here hx rfl (hb hby at_30) rfl (bB_eq_f hc30_10) ?_
        show Steps p.tables e below (T8.setTop (mkF m 33 #[.val (.long q1), .second, .val (.long q2), .second, .val (.long (mn64 q1 q2)), .second, .val (.long (mx64 q1 q2)), .second, .val (.int (bI (¬ ((mn64 q1 q2) < (1 : Int64))))), .val (.int (bI (¬ ((mx64 q1 q2) < (1 : Int64))))), .unset, .unset] [])) _
        refine XS.iload X8.here hx rfl (hb hby at_33) rfl ?_
        show Steps p.tables e below (T8.setTop (mkF m 35 #[.val (.long q1), .second, .val (.long q2), .second, .val (.long (mn64 q1 q2)), .second, .val (.long (mx64 q1 q2)), .second, .val (.int (bI (¬ ((mn64 q1 q2) < (1 : Int64))))), .val (.int (bI (¬ ((mx64 q1 q2) < (1 : Int64))))), .unset, .unset] [(.int (bI (¬ ((mx64 q1 q2) < (1 : Int64)))))])) _
        exact kk
      by_cases hc35_12 : ¬ ((mx64 q1 q2) < (1 : Int64))
      · skip
        refine ⟨T8, _, X8, N8, hh8, fun tgt kk => ?_⟩
        have kq14 : ((.int (bI ((¬ ((mn64 q1 q2) < (1 : Int64))) → (¬ ((mx64 q1 q2) < (1 : Int64)))))) : Value) = (.int (1 : Int32)) := ((congrArg Value.int (bI_iff (imp_iff_h hc30_10))).trans (congrArg Value.int (bI_t hc35_12)))
        rw [kq14] at kk
        refine pre11 tgt ?_
        refine XS.ifNo X8.here hx rfl (hb hby at_35) rfl (bB_eq_f hc35_12) ?_
        show Steps p.tables e below (T8.setTop (mkF m 38 #[.val (.long q1), .second, .val (.long q2), .second, .val (.long (mn64 q1 q2)), .second, .val (.long (mx64 q1 q2)), .second, .val (.int (bI (¬ ((mn64 q1 q2) < (1 : Int64))))), .val (.int (bI (¬ ((mx64 q1 q2) < (1 : Int64))))), .unset, .unset] [])) _
        refine XS.iconst X8.here hx rfl (hb hby at_38) ?_
        show Steps p.tables e below (T8.setTop (mkF m 39 #[.val (.long q1), .second, .val (.long q2), .second, .val (.long (mn64 q1 q2)), .second, .val (.long (mx64 q1 q2)), .second, .val (.int (bI (¬ ((mn64 q1 q2) < (1 : Int64))))), .val (.int (bI (¬ ((mx64 q1 q2) < (1 : Int64))))), .unset, .unset] [(.int (1 : Int32))])) _
        refine XS.goto X8.here hx rfl (pc0 := 39) (pc' := 43) rfl (hb hby at_39) (by decide) (by decide) ?_
        show Steps p.tables e below (T8.setTop (mkF m 43 #[.val (.long q1), .second, .val (.long q2), .second, .val (.long (mn64 q1 q2)), .second, .val (.long (mx64 q1 q2)), .second, .val (.int (bI (¬ ((mn64 q1 q2) < (1 : Int64))))), .val (.int (bI (¬ ((mx64 q1 q2) < (1 : Int64))))), .unset, .unset] [(.int (1 : Int32))])) _
        exact kk
      · skip
        refine ⟨T8, _, X8, N8, hh8, fun tgt kk => ?_⟩
        have kq15 : ((.int (bI ((¬ ((mn64 q1 q2) < (1 : Int64))) → (¬ ((mx64 q1 q2) < (1 : Int64)))))) : Value) = (.int (0 : Int32)) := ((congrArg Value.int (bI_iff (imp_iff_h hc30_10))).trans (congrArg Value.int (bI_f hc35_12)))
        rw [kq15] at kk
        refine pre11 tgt ?_
        refine XS.ifYes X8.here hx rfl (pc0 := 35) (pc' := 42) rfl (hb hby at_35) rfl (bB_eq_t hc35_12) (by decide) (by decide) ?_
        show Steps p.tables e below (T8.setTop (mkF m 42 #[.val (.long q1), .second, .val (.long q2), .second, .val (.long (mn64 q1 q2)), .second, .val (.long (mx64 q1 q2)), .second, .val (.int (bI (¬ ((mn64 q1 q2) < (1 : Int64))))), .val (.int (bI (¬ ((mx64 q1 q2) < (1 : Int64))))), .unset, .unset] [])) _
        refine XS.iconst X8.here hx rfl (hb hby at_42) ?_
        show Steps p.tables e below (T8.setTop (mkF m 43 #[.val (.long q1), .second, .val (.long q2), .second, .val (.long (mn64 q1 q2)), .second, .val (.long (mx64 q1 q2)), .second, .val (.int (bI (¬ ((mn64 q1 q2) < (1 : Int64))))), .val (.int (bI (¬ ((mx64 q1 q2) < (1 : Int64))))), .unset, .unset] [(.int (0 : Int32))])) _
        exact kk
    · skip
      refine ⟨T8, _, X8, N8, hh8, fun tgt kk => ?_⟩
      have kq16 : ((.int (bI ((¬ ((mn64 q1 q2) < (1 : Int64))) → (¬ ((mx64 q1 q2) < (1 : Int64)))))) : Value) = (.int (1 : Int32)) := (congrArg Value.int (bI_t (fun q => absurd q hc30_10)))
      rw [kq16] at kk
      refine pre9 tgt ?_
      refine XS.ifYes X8.here hx rfl (pc0 := 30) (pc' := 38) rfl (hb hby at_30) rfl (bB_eq_t hc30_10) (by decide) (by decide) ?_
      show Steps p.tables e below (T8.setTop (mkF m 38 #[.val (.long q1), .second, .val (.long q2), .second, .val (.long (mn64 q1 q2)), .second, .val (.long (mx64 q1 q2)), .second, .val (.int (bI (¬ ((mn64 q1 q2) < (1 : Int64))))), .val (.int (bI (¬ ((mx64 q1 q2) < (1 : Int64))))), .unset, .unset] [])) _
      refine XS.iconst X8.here hx rfl (hb hby at_38) ?_
      show Steps p.tables e below (T8.setTop (mkF m 39 #[.val (.long q1), .second, .val (.long q2), .second, .val (.long (mn64 q1 q2)), .second, .val (.long (mx64 q1 q2)), .second, .val (.int (bI (¬ ((mn64 q1 q2) < (1 : Int64))))), .val (.int (bI (¬ ((mx64 q1 q2) < (1 : Int64))))), .unset, .unset] [(.int (1 : Int32))])) _
      refine XS.goto X8.here hx rfl (pc0 := 39) (pc' := 43) rfl (hb hby at_39) (by decide) (by decide) ?_
      show Steps p.tables e below (T8.setTop (mkF m 43 #[.val (.long q1), .second, .val (.long q2), .second, .val (.long (mn64 q1 q2)), .second, .val (.long (mx64 q1 q2)), .second, .val (.int (bI (¬ ((mn64 q1 q2) < (1 : Int64))))), .val (.int (bI (¬ ((mx64 q1 q2) < (1 : Int64))))), .unset, .unset] [(.int (1 : Int32))])) _
      exact kk
  have pre17 : ∀ tgt, Steps p.tables e below (T13.setTop (mkF m 46 #[.val (.long q1), .second, .val (.long q2), .second, .val (.long (mn64 q1 q2)), .second, .val (.long (mx64 q1 q2)), .second, .val (.int (bI (¬ ((mn64 q1 q2) < (1 : Int64))))), .val (.int (bI (¬ ((mx64 q1 q2) < (1 : Int64))))), .val (.int (bI ((¬ ((mn64 q1 q2) < (1 : Int64))) → (¬ ((mx64 q1 q2) < (1 : Int64)))))), .unset] [(.long (1 : Int64))])) tgt → Steps p.tables e below (s₁.setTop (entryFrame m #[(.long q1), (.long q2)] maxLocals)) tgt := by
    intro tgt kk
    refine pre13 tgt ?_
    refine XS.istore X13.here hx rfl (hb hby at_43) rfl (l' := #[.val (.long q1), .second, .val (.long q2), .second, .val (.long (mn64 q1 q2)), .second, .val (.long (mx64 q1 q2)), .second, .val (.int (bI (¬ ((mn64 q1 q2) < (1 : Int64))))), .val (.int (bI (¬ ((mx64 q1 q2) < (1 : Int64))))), .val (.int (bI ((¬ ((mn64 q1 q2) < (1 : Int64))) → (¬ ((mx64 q1 q2) < (1 : Int64)))))), .unset]) rfl ?_
    show Steps p.tables e below (T13.setTop (mkF m 45 #[.val (.long q1), .second, .val (.long q2), .second, .val (.long (mn64 q1 q2)), .second, .val (.long (mx64 q1 q2)), .second, .val (.int (bI (¬ ((mn64 q1 q2) < (1 : Int64))))), .val (.int (bI (¬ ((mx64 q1 q2) < (1 : Int64))))), .val (.int (bI ((¬ ((mn64 q1 q2) < (1 : Int64))) → (¬ ((mx64 q1 q2) < (1 : Int64)))))), .unset] [])) _
    refine XS.lconst X13.here hx rfl (hb hby at_45) ?_
    show Steps p.tables e below (T13.setTop (mkF m 46 #[.val (.long q1), .second, .val (.long q2), .second, .val (.long (mn64 q1 q2)), .second, .val (.long (mx64 q1 q2)), .second, .val (.int (bI (¬ ((mn64 q1 q2) < (1 : Int64))))), .val (.int (bI (¬ ((mx64 q1 q2) < (1 : Int64))))), .val (.int (bI ((¬ ((mn64 q1 q2) < (1 : Int64))) → (¬ ((mx64 q1 q2) < (1 : Int64)))))), .unset] [(.long (1 : Int64))])) _
    exact kk
  obtain ⟨_, _, ⟨T18, L18, k18, n18⟩, -, X18, ⟨Lc18, hQ18, l18, y18, z18⟩, st18⟩ := Jvm.LawKit.callS X13 hx (y := (⟨"com/example/leasehold/leasehold/LeaseRequest", "isValidTtl", "(J)Z"⟩ : MethodName)) hown (mvT hZ (hw _ (List.mem_of_getElem? (i := 7) rfl))) (mvT hZ (hw _ (List.mem_of_getElem? (i := 8) rfl))) (mvT hZ (hw _ (List.mem_of_getElem? (i := 9) rfl))) (mvT hZ (hw _ (List.mem_of_getElem? (i := 10) rfl))) (by decide) (backOf (W := 0) (rm3 l Z a0 hw [] (1 : Int64) h0 n0 Z0) hZ (hw _ (List.mem_of_getElem? (i := 10) rfl)) (hw _ (List.mem_of_getElem? (i := 9) rfl)) (by decide) (by decide)) (g := (mkF m 46 #[.val (.long q1), .second, .val (.long q2), .second, .val (.long (mn64 q1 q2)), .second, .val (.long (mx64 q1 q2)), .second, .val (.int (bI (¬ ((mn64 q1 q2) < (1 : Int64))))), .val (.int (bI (¬ ((mx64 q1 q2) < (1 : Int64))))), .val (.int (bI ((¬ ((mn64 q1 q2) < (1 : Int64))) → (¬ ((mx64 q1 q2) < (1 : Int64)))))), .unset] [(.long (1 : Int64))])) rfl (by rw [hml]; rfl) (argsL := [(.long (1 : Int64))]) (rest := []) (lenOf pd__J_Z rfl) rfl (by show 2 * 0 + _ ≤ _; exact Nat.le_of_eq rfl) (hb hby at_46) (fun _ _ => ⟨rfl, e13, (by decide : 0 + 0 ≤ _), (by decide : 0 + 0 ≤ _)⟩)
  dsimp only [Pt.U, Pt.locs, Pt.cells, Pt.slots] at X18 l18 y18 z18 st18 hQ18
  subst l18 y18 z18
  obtain ⟨rfl, N18q, hh18⟩ := hQ18
  have N18 := Fr.app N13 N18q
  have pre19 : ∀ tgt, Steps p.tables e below (T18.setTop (mkF m 49 #[.val (.long q1), .second, .val (.long q2), .second, .val (.long (mn64 q1 q2)), .second, .val (.long (mx64 q1 q2)), .second, .val (.int (bI (¬ ((mn64 q1 q2) < (1 : Int64))))), .val (.int (bI (¬ ((mx64 q1 q2) < (1 : Int64))))), .val (.int (bI ((¬ ((mn64 q1 q2) < (1 : Int64))) → (¬ ((mx64 q1 q2) < (1 : Int64)))))), .unset] [(.int (bI (¬ ((1 : Int64) < (1 : Int64)))))])) tgt → Steps p.tables e below (s₁.setTop (entryFrame m #[(.long q1), (.long q2)] maxLocals)) tgt := by
    intro tgt kk
    refine pre17 tgt ?_
    refine st18 _ ?_
    show Steps p.tables e below (T18.setTop (mkF m 49 #[.val (.long q1), .second, .val (.long q2), .second, .val (.long (mn64 q1 q2)), .second, .val (.long (mx64 q1 q2)), .second, .val (.int (bI (¬ ((mn64 q1 q2) < (1 : Int64))))), .val (.int (bI (¬ ((mx64 q1 q2) < (1 : Int64))))), .val (.int (bI ((¬ ((mn64 q1 q2) < (1 : Int64))) → (¬ ((mx64 q1 q2) < (1 : Int64)))))), .unset] [(.int (bI (¬ ((1 : Int64) < (1 : Int64)))))])) _
    exact kk
  obtain ⟨T25, lo25, X25, N25, e25, pre25⟩ : ∃ (T' : State) (lo : List Loc), Stand p l e room_1 s m #[(.long q1), (.long q2)] below meth c T' lo 0 0 ∧ Fr n0 lo ∧ T'.heap = h0 ∧ ∀ tgt, Steps p.tables e below (T'.setTop (mkF m 64 #[.val (.long q1), .second, .val (.long q2), .second, .val (.long (mn64 q1 q2)), .second, .val (.long (mx64 q1 q2)), .second, .val (.int (bI (¬ ((mn64 q1 q2) < (1 : Int64))))), .val (.int (bI (¬ ((mx64 q1 q2) < (1 : Int64))))), .val (.int (bI ((¬ ((mn64 q1 q2) < (1 : Int64))) → (¬ ((mx64 q1 q2) < (1 : Int64)))))), .unset] [(.int (bI ((¬ ((1 : Int64) < (1 : Int64))) ∧ (¬ (¬ ((0 : Int64) < (1 : Int64)))))))])) tgt → Steps p.tables e below (s₁.setTop (entryFrame m #[(.long q1), (.long q2)] maxLocals)) tgt := by
    by_cases hc49_20 : ¬ ((1 : Int64) < (1 : Int64))
    · skip
      have pre21 : ∀ tgt, Steps p.tables e below (T18.setTop (mkF m 53 #[.val (.long q1), .second, .val (.long q2), .second, .val (.long (mn64 q1 q2)), .second, .val (.long (mx64 q1 q2)), .second, .val (.int (bI (¬ ((mn64 q1 q2) < (1 : Int64))))), .val (.int (bI (¬ ((mx64 q1 q2) < (1 : Int64))))), .val (.int (bI ((¬ ((mn64 q1 q2) < (1 : Int64))) → (¬ ((mx64 q1 q2) < (1 : Int64)))))), .unset] [(.long (0 : Int64))])) tgt → Steps p.tables e below (s₁.setTop (entryFrame m #[(.long q1), (.long q2)] maxLocals)) tgt := by
        intro tgt kk
        refine pre19 tgt ?_
        refine XS.ifNo X18.here hx rfl (hb hby at_49) rfl (bB_eq_f hc49_20) ?_
        show Steps p.tables e below (T18.setTop (mkF m 52 #[.val (.long q1), .second, .val (.long q2), .second, .val (.long (mn64 q1 q2)), .second, .val (.long (mx64 q1 q2)), .second, .val (.int (bI (¬ ((mn64 q1 q2) < (1 : Int64))))), .val (.int (bI (¬ ((mx64 q1 q2) < (1 : Int64))))), .val (.int (bI ((¬ ((mn64 q1 q2) < (1 : Int64))) → (¬ ((mx64 q1 q2) < (1 : Int64)))))), .unset] [])) _
        refine XS.lconst X18.here hx rfl (hb hby at_52) ?_
        show Steps p.tables e below (T18.setTop (mkF m 53 #[.val (.long q1), .second, .val (.long q2), .second, .val (.long (mn64 q1 q2)), .second, .val (.long (mx64 q1 q2)), .second, .val (.int (bI (¬ ((mn64 q1 q2) < (1 : Int64))))), .val (.int (bI (¬ ((mx64 q1 q2) < (1 : Int64))))), .val (.int (bI ((¬ ((mn64 q1 q2) < (1 : Int64))) → (¬ ((mx64 q1 q2) < (1 : Int64)))))), .unset] [(.long (0 : Int64))])) _
        exact kk
      obtain ⟨_, _, ⟨T22, L22, k22, n22⟩, -, X22, ⟨Lc22, hQ22, l22, y22, z22⟩, st22⟩ := Jvm.LawKit.callS X18 hx (y := (⟨"com/example/leasehold/leasehold/LeaseRequest", "isValidTtl", "(J)Z"⟩ : MethodName)) hown (mvT hZ (hw _ (List.mem_of_getElem? (i := 7) rfl))) (mvT hZ (hw _ (List.mem_of_getElem? (i := 8) rfl))) (mvT hZ (hw _ (List.mem_of_getElem? (i := 9) rfl))) (mvT hZ (hw _ (List.mem_of_getElem? (i := 10) rfl))) (by decide) (backOf (W := 0) (rm3 l Z a0 hw [] (0 : Int64) h0 n0 Z0) hZ (hw _ (List.mem_of_getElem? (i := 10) rfl)) (hw _ (List.mem_of_getElem? (i := 9) rfl)) (by decide) (by decide)) (g := (mkF m 53 #[.val (.long q1), .second, .val (.long q2), .second, .val (.long (mn64 q1 q2)), .second, .val (.long (mx64 q1 q2)), .second, .val (.int (bI (¬ ((mn64 q1 q2) < (1 : Int64))))), .val (.int (bI (¬ ((mx64 q1 q2) < (1 : Int64))))), .val (.int (bI ((¬ ((mn64 q1 q2) < (1 : Int64))) → (¬ ((mx64 q1 q2) < (1 : Int64)))))), .unset] [(.long (0 : Int64))])) rfl (by rw [hml]; rfl) (argsL := [(.long (0 : Int64))]) (rest := []) (lenOf pd__J_Z rfl) rfl (by show 2 * 0 + _ ≤ _; exact Nat.le_of_eq rfl) (hb hby at_53) (fun _ _ => ⟨rfl, hh18, (by decide : 0 + 0 ≤ _), (by decide : 0 + 0 ≤ _)⟩)
      dsimp only [Pt.U, Pt.locs, Pt.cells, Pt.slots] at X22 l22 y22 z22 st22 hQ22
      subst l22 y22 z22
      obtain ⟨rfl, N22q, hh22⟩ := hQ22
      have N22 := Fr.app N18 N22q
      have pre23 : ∀ tgt, Steps p.tables e below (T22.setTop (mkF m 56 #[.val (.long q1), .second, .val (.long q2), .second, .val (.long (mn64 q1 q2)), .second, .val (.long (mx64 q1 q2)), .second, .val (.int (bI (¬ ((mn64 q1 q2) < (1 : Int64))))), .val (.int (bI (¬ ((mx64 q1 q2) < (1 : Int64))))), .val (.int (bI ((¬ ((mn64 q1 q2) < (1 : Int64))) → (¬ ((mx64 q1 q2) < (1 : Int64)))))), .unset] [(.int (bI (¬ ((0 : Int64) < (1 : Int64)))))])) tgt → Steps p.tables e below (s₁.setTop (entryFrame m #[(.long q1), (.long q2)] maxLocals)) tgt := by
        intro tgt kk
        refine pre21 tgt ?_
        refine st22 _ ?_
        show Steps p.tables e below (T22.setTop (mkF m 56 #[.val (.long q1), .second, .val (.long q2), .second, .val (.long (mn64 q1 q2)), .second, .val (.long (mx64 q1 q2)), .second, .val (.int (bI (¬ ((mn64 q1 q2) < (1 : Int64))))), .val (.int (bI (¬ ((mx64 q1 q2) < (1 : Int64))))), .val (.int (bI ((¬ ((mn64 q1 q2) < (1 : Int64))) → (¬ ((mx64 q1 q2) < (1 : Int64)))))), .unset] [(.int (bI (¬ ((0 : Int64) < (1 : Int64)))))])) _
        exact kk
      by_cases hc56_24 : ¬ ((0 : Int64) < (1 : Int64))
      · skip
        refine ⟨T22, _, X22, N22, hh22, fun tgt kk => ?_⟩
        have kq26 : ((.int (bI ((¬ ((1 : Int64) < (1 : Int64))) ∧ (¬ (¬ ((0 : Int64) < (1 : Int64))))))) : Value) = (.int (0 : Int32)) := ((congrArg Value.int (bI_iff (and_iff_right hc49_20))).trans (congrArg Value.int (bI_f (not_not_intro hc56_24))))
        rw [kq26] at kk
        refine pre23 tgt ?_
        refine XS.ifYes X22.here hx rfl (pc0 := 56) (pc' := 63) rfl (hb hby at_56) rfl (bB_ne_t hc56_24) (by decide) (by decide) ?_
        show Steps p.tables e below (T22.setTop (mkF m 63 #[.val (.long q1), .second, .val (.long q2), .second, .val (.long (mn64 q1 q2)), .second, .val (.long (mx64 q1 q2)), .second, .val (.int (bI (¬ ((mn64 q1 q2) < (1 : Int64))))), .val (.int (bI (¬ ((mx64 q1 q2) < (1 : Int64))))), .val (.int (bI ((¬ ((mn64 q1 q2) < (1 : Int64))) → (¬ ((mx64 q1 q2) < (1 : Int64)))))), .unset] [])) _
        refine XS.iconst X22.here hx rfl (hb hby at_63) ?_
        show Steps p.tables e below (T22.setTop (mkF m 64 #[.val (.long q1), .second, .val (.long q2), .second, .val (.long (mn64 q1 q2)), .second, .val (.long (mx64 q1 q2)), .second, .val (.int (bI (¬ ((mn64 q1 q2) < (1 : Int64))))), .val (.int (bI (¬ ((mx64 q1 q2) < (1 : Int64))))), .val (.int (bI ((¬ ((mn64 q1 q2) < (1 : Int64))) → (¬ ((mx64 q1 q2) < (1 : Int64)))))), .unset] [(.int (0 : Int32))])) _
        exact kk
      · skip
        refine ⟨T22, _, X22, N22, hh22, fun tgt kk => ?_⟩
        have kq27 : ((.int (bI ((¬ ((1 : Int64) < (1 : Int64))) ∧ (¬ (¬ ((0 : Int64) < (1 : Int64))))))) : Value) = (.int (1 : Int32)) := ((congrArg Value.int (bI_iff (and_iff_right hc49_20))).trans (congrArg Value.int (bI_t hc56_24)))
        rw [kq27] at kk
        refine pre23 tgt ?_
        refine XS.ifNo X22.here hx rfl (hb hby at_56) rfl (bB_ne_f hc56_24) ?_
        show Steps p.tables e below (T22.setTop (mkF m 59 #[.val (.long q1), .second, .val (.long q2), .second, .val (.long (mn64 q1 q2)), .second, .val (.long (mx64 q1 q2)), .second, .val (.int (bI (¬ ((mn64 q1 q2) < (1 : Int64))))), .val (.int (bI (¬ ((mx64 q1 q2) < (1 : Int64))))), .val (.int (bI ((¬ ((mn64 q1 q2) < (1 : Int64))) → (¬ ((mx64 q1 q2) < (1 : Int64)))))), .unset] [])) _
        refine XS.iconst X22.here hx rfl (hb hby at_59) ?_
        show Steps p.tables e below (T22.setTop (mkF m 60 #[.val (.long q1), .second, .val (.long q2), .second, .val (.long (mn64 q1 q2)), .second, .val (.long (mx64 q1 q2)), .second, .val (.int (bI (¬ ((mn64 q1 q2) < (1 : Int64))))), .val (.int (bI (¬ ((mx64 q1 q2) < (1 : Int64))))), .val (.int (bI ((¬ ((mn64 q1 q2) < (1 : Int64))) → (¬ ((mx64 q1 q2) < (1 : Int64)))))), .unset] [(.int (1 : Int32))])) _
        refine XS.goto X22.here hx rfl (pc0 := 60) (pc' := 64) rfl (hb hby at_60) (by decide) (by decide) ?_
        show Steps p.tables e below (T22.setTop (mkF m 64 #[.val (.long q1), .second, .val (.long q2), .second, .val (.long (mn64 q1 q2)), .second, .val (.long (mx64 q1 q2)), .second, .val (.int (bI (¬ ((mn64 q1 q2) < (1 : Int64))))), .val (.int (bI (¬ ((mx64 q1 q2) < (1 : Int64))))), .val (.int (bI ((¬ ((mn64 q1 q2) < (1 : Int64))) → (¬ ((mx64 q1 q2) < (1 : Int64)))))), .unset] [(.int (1 : Int32))])) _
        exact kk
    · skip
      refine ⟨T18, _, X18, N18, hh18, fun tgt kk => ?_⟩
      have kq28 : ((.int (bI ((¬ ((1 : Int64) < (1 : Int64))) ∧ (¬ (¬ ((0 : Int64) < (1 : Int64))))))) : Value) = (.int (0 : Int32)) := (congrArg Value.int (bI_f (fun q => hc49_20 q.1)))
      rw [kq28] at kk
      refine pre19 tgt ?_
      refine XS.ifYes X18.here hx rfl (pc0 := 49) (pc' := 63) rfl (hb hby at_49) rfl (bB_eq_t hc49_20) (by decide) (by decide) ?_
      show Steps p.tables e below (T18.setTop (mkF m 63 #[.val (.long q1), .second, .val (.long q2), .second, .val (.long (mn64 q1 q2)), .second, .val (.long (mx64 q1 q2)), .second, .val (.int (bI (¬ ((mn64 q1 q2) < (1 : Int64))))), .val (.int (bI (¬ ((mx64 q1 q2) < (1 : Int64))))), .val (.int (bI ((¬ ((mn64 q1 q2) < (1 : Int64))) → (¬ ((mx64 q1 q2) < (1 : Int64)))))), .unset] [])) _
      refine XS.iconst X18.here hx rfl (hb hby at_63) ?_
      show Steps p.tables e below (T18.setTop (mkF m 64 #[.val (.long q1), .second, .val (.long q2), .second, .val (.long (mn64 q1 q2)), .second, .val (.long (mx64 q1 q2)), .second, .val (.int (bI (¬ ((mn64 q1 q2) < (1 : Int64))))), .val (.int (bI (¬ ((mx64 q1 q2) < (1 : Int64))))), .val (.int (bI ((¬ ((mn64 q1 q2) < (1 : Int64))) → (¬ ((mx64 q1 q2) < (1 : Int64)))))), .unset] [(.int (0 : Int32))])) _
      exact kk
  have pre29 : ∀ tgt, Steps p.tables e below (T25.setTop (mkF m 68 #[.val (.long q1), .second, .val (.long q2), .second, .val (.long (mn64 q1 q2)), .second, .val (.long (mx64 q1 q2)), .second, .val (.int (bI (¬ ((mn64 q1 q2) < (1 : Int64))))), .val (.int (bI (¬ ((mx64 q1 q2) < (1 : Int64))))), .val (.int (bI ((¬ ((mn64 q1 q2) < (1 : Int64))) → (¬ ((mx64 q1 q2) < (1 : Int64)))))), .val (.int (bI ((¬ ((1 : Int64) < (1 : Int64))) ∧ (¬ (¬ ((0 : Int64) < (1 : Int64)))))))] [(.int (bI ((¬ ((mn64 q1 q2) < (1 : Int64))) → (¬ ((mx64 q1 q2) < (1 : Int64))))))])) tgt → Steps p.tables e below (s₁.setTop (entryFrame m #[(.long q1), (.long q2)] maxLocals)) tgt := by
    intro tgt kk
    refine pre25 tgt ?_
    refine XS.istore X25.here hx rfl (hb hby at_64) rfl (l' := #[.val (.long q1), .second, .val (.long q2), .second, .val (.long (mn64 q1 q2)), .second, .val (.long (mx64 q1 q2)), .second, .val (.int (bI (¬ ((mn64 q1 q2) < (1 : Int64))))), .val (.int (bI (¬ ((mx64 q1 q2) < (1 : Int64))))), .val (.int (bI ((¬ ((mn64 q1 q2) < (1 : Int64))) → (¬ ((mx64 q1 q2) < (1 : Int64)))))), .val (.int (bI ((¬ ((1 : Int64) < (1 : Int64))) ∧ (¬ (¬ ((0 : Int64) < (1 : Int64)))))))]) rfl ?_
    show Steps p.tables e below (T25.setTop (mkF m 66 #[.val (.long q1), .second, .val (.long q2), .second, .val (.long (mn64 q1 q2)), .second, .val (.long (mx64 q1 q2)), .second, .val (.int (bI (¬ ((mn64 q1 q2) < (1 : Int64))))), .val (.int (bI (¬ ((mx64 q1 q2) < (1 : Int64))))), .val (.int (bI ((¬ ((mn64 q1 q2) < (1 : Int64))) → (¬ ((mx64 q1 q2) < (1 : Int64)))))), .val (.int (bI ((¬ ((1 : Int64) < (1 : Int64))) ∧ (¬ (¬ ((0 : Int64) < (1 : Int64)))))))] [])) _
    refine XS.iload X25.here hx rfl (hb hby at_66) rfl ?_
    show Steps p.tables e below (T25.setTop (mkF m 68 #[.val (.long q1), .second, .val (.long q2), .second, .val (.long (mn64 q1 q2)), .second, .val (.long (mx64 q1 q2)), .second, .val (.int (bI (¬ ((mn64 q1 q2) < (1 : Int64))))), .val (.int (bI (¬ ((mx64 q1 q2) < (1 : Int64))))), .val (.int (bI ((¬ ((mn64 q1 q2) < (1 : Int64))) → (¬ ((mx64 q1 q2) < (1 : Int64)))))), .val (.int (bI ((¬ ((1 : Int64) < (1 : Int64))) ∧ (¬ (¬ ((0 : Int64) < (1 : Int64)))))))] [(.int (bI ((¬ ((mn64 q1 q2) < (1 : Int64))) → (¬ ((mx64 q1 q2) < (1 : Int64))))))])) _
    exact kk
  obtain ⟨T33, lo33, X33, N33, e33, pre33⟩ : ∃ (T' : State) (lo : List Loc), Stand p l e room_1 s m #[(.long q1), (.long q2)] below meth c T' lo 0 0 ∧ Fr n0 lo ∧ T'.heap = h0 ∧ ∀ tgt, Steps p.tables e below (T'.setTop (mkF m 81 #[.val (.long q1), .second, .val (.long q2), .second, .val (.long (mn64 q1 q2)), .second, .val (.long (mx64 q1 q2)), .second, .val (.int (bI (¬ ((mn64 q1 q2) < (1 : Int64))))), .val (.int (bI (¬ ((mx64 q1 q2) < (1 : Int64))))), .val (.int (bI ((¬ ((mn64 q1 q2) < (1 : Int64))) → (¬ ((mx64 q1 q2) < (1 : Int64)))))), .val (.int (bI ((¬ ((1 : Int64) < (1 : Int64))) ∧ (¬ (¬ ((0 : Int64) < (1 : Int64)))))))] [(.int (bI (((¬ ((mn64 q1 q2) < (1 : Int64))) → (¬ ((mx64 q1 q2) < (1 : Int64)))) ∧ ((¬ ((1 : Int64) < (1 : Int64))) ∧ (¬ (¬ ((0 : Int64) < (1 : Int64))))))))])) tgt → Steps p.tables e below (s₁.setTop (entryFrame m #[(.long q1), (.long q2)] maxLocals)) tgt := by
    by_cases hc68_30 : (¬ ((mn64 q1 q2) < (1 : Int64))) → (¬ ((mx64 q1 q2) < (1 : Int64)))
    · skip
      have pre31 : ∀ tgt, Steps p.tables e below (T25.setTop (mkF m 73 #[.val (.long q1), .second, .val (.long q2), .second, .val (.long (mn64 q1 q2)), .second, .val (.long (mx64 q1 q2)), .second, .val (.int (bI (¬ ((mn64 q1 q2) < (1 : Int64))))), .val (.int (bI (¬ ((mx64 q1 q2) < (1 : Int64))))), .val (.int (bI ((¬ ((mn64 q1 q2) < (1 : Int64))) → (¬ ((mx64 q1 q2) < (1 : Int64)))))), .val (.int (bI ((¬ ((1 : Int64) < (1 : Int64))) ∧ (¬ (¬ ((0 : Int64) < (1 : Int64)))))))] [(.int (bI ((¬ ((1 : Int64) < (1 : Int64))) ∧ (¬ (¬ ((0 : Int64) < (1 : Int64)))))))])) tgt → Steps p.tables e below (s₁.setTop (entryFrame m #[(.long q1), (.long q2)] maxLocals)) tgt := by
        intro tgt kk
        refine pre29 tgt ?_
        refine XS.ifNo X25.here hx rfl (hb hby at_68) rfl (bB_eq_f hc68_30) ?_
        show Steps p.tables e below (T25.setTop (mkF m 71 #[.val (.long q1), .second, .val (.long q2), .second, .val (.long (mn64 q1 q2)), .second, .val (.long (mx64 q1 q2)), .second, .val (.int (bI (¬ ((mn64 q1 q2) < (1 : Int64))))), .val (.int (bI (¬ ((mx64 q1 q2) < (1 : Int64))))), .val (.int (bI ((¬ ((mn64 q1 q2) < (1 : Int64))) → (¬ ((mx64 q1 q2) < (1 : Int64)))))), .val (.int (bI ((¬ ((1 : Int64) < (1 : Int64))) ∧ (¬ (¬ ((0 : Int64) < (1 : Int64)))))))] [])) _
        refine XS.iload X25.here hx rfl (hb hby at_71) rfl ?_
        show Steps p.tables e below (T25.setTop (mkF m 73 #[.val (.long q1), .second, .val (.long q2), .second, .val (.long (mn64 q1 q2)), .second, .val (.long (mx64 q1 q2)), .second, .val (.int (bI (¬ ((mn64 q1 q2) < (1 : Int64))))), .val (.int (bI (¬ ((mx64 q1 q2) < (1 : Int64))))), .val (.int (bI ((¬ ((mn64 q1 q2) < (1 : Int64))) → (¬ ((mx64 q1 q2) < (1 : Int64)))))), .val (.int (bI ((¬ ((1 : Int64) < (1 : Int64))) ∧ (¬ (¬ ((0 : Int64) < (1 : Int64)))))))] [(.int (bI ((¬ ((1 : Int64) < (1 : Int64))) ∧ (¬ (¬ ((0 : Int64) < (1 : Int64)))))))])) _
        exact kk
      by_cases hc73_32 : (¬ ((1 : Int64) < (1 : Int64))) ∧ (¬ (¬ ((0 : Int64) < (1 : Int64))))
      · skip
        refine ⟨T25, _, X25, N25, e25, fun tgt kk => ?_⟩
        have kq34 : ((.int (bI (((¬ ((mn64 q1 q2) < (1 : Int64))) → (¬ ((mx64 q1 q2) < (1 : Int64)))) ∧ ((¬ ((1 : Int64) < (1 : Int64))) ∧ (¬ (¬ ((0 : Int64) < (1 : Int64)))))))) : Value) = (.int (1 : Int32)) := ((congrArg Value.int (bI_iff (and_iff_right hc68_30))).trans (congrArg Value.int (bI_t hc73_32)))
        rw [kq34] at kk
        refine pre31 tgt ?_
        refine XS.ifNo X25.here hx rfl (hb hby at_73) rfl (bB_eq_f hc73_32) ?_
        show Steps p.tables e below (T25.setTop (mkF m 76 #[.val (.long q1), .second, .val (.long q2), .second, .val (.long (mn64 q1 q2)), .second, .val (.long (mx64 q1 q2)), .second, .val (.int (bI (¬ ((mn64 q1 q2) < (1 : Int64))))), .val (.int (bI (¬ ((mx64 q1 q2) < (1 : Int64))))), .val (.int (bI ((¬ ((mn64 q1 q2) < (1 : Int64))) → (¬ ((mx64 q1 q2) < (1 : Int64)))))), .val (.int (bI ((¬ ((1 : Int64) < (1 : Int64))) ∧ (¬ (¬ ((0 : Int64) < (1 : Int64)))))))] [])) _
        refine XS.iconst X25.here hx rfl (hb hby at_76) ?_
        show Steps p.tables e below (T25.setTop (mkF m 77 #[.val (.long q1), .second, .val (.long q2), .second, .val (.long (mn64 q1 q2)), .second, .val (.long (mx64 q1 q2)), .second, .val (.int (bI (¬ ((mn64 q1 q2) < (1 : Int64))))), .val (.int (bI (¬ ((mx64 q1 q2) < (1 : Int64))))), .val (.int (bI ((¬ ((mn64 q1 q2) < (1 : Int64))) → (¬ ((mx64 q1 q2) < (1 : Int64)))))), .val (.int (bI ((¬ ((1 : Int64) < (1 : Int64))) ∧ (¬ (¬ ((0 : Int64) < (1 : Int64)))))))] [(.int (1 : Int32))])) _
        refine XS.goto X25.here hx rfl (pc0 := 77) (pc' := 81) rfl (hb hby at_77) (by decide) (by decide) ?_
        show Steps p.tables e below (T25.setTop (mkF m 81 #[.val (.long q1), .second, .val (.long q2), .second, .val (.long (mn64 q1 q2)), .second, .val (.long (mx64 q1 q2)), .second, .val (.int (bI (¬ ((mn64 q1 q2) < (1 : Int64))))), .val (.int (bI (¬ ((mx64 q1 q2) < (1 : Int64))))), .val (.int (bI ((¬ ((mn64 q1 q2) < (1 : Int64))) → (¬ ((mx64 q1 q2) < (1 : Int64)))))), .val (.int (bI ((¬ ((1 : Int64) < (1 : Int64))) ∧ (¬ (¬ ((0 : Int64) < (1 : Int64)))))))] [(.int (1 : Int32))])) _
        exact kk
      · skip
        refine ⟨T25, _, X25, N25, e25, fun tgt kk => ?_⟩
        have kq35 : ((.int (bI (((¬ ((mn64 q1 q2) < (1 : Int64))) → (¬ ((mx64 q1 q2) < (1 : Int64)))) ∧ ((¬ ((1 : Int64) < (1 : Int64))) ∧ (¬ (¬ ((0 : Int64) < (1 : Int64)))))))) : Value) = (.int (0 : Int32)) := ((congrArg Value.int (bI_iff (and_iff_right hc68_30))).trans (congrArg Value.int (bI_f hc73_32)))
        rw [kq35] at kk
        refine pre31 tgt ?_
        refine XS.ifYes X25.here hx rfl (pc0 := 73) (pc' := 80) rfl (hb hby at_73) rfl (bB_eq_t hc73_32) (by decide) (by decide) ?_
        show Steps p.tables e below (T25.setTop (mkF m 80 #[.val (.long q1), .second, .val (.long q2), .second, .val (.long (mn64 q1 q2)), .second, .val (.long (mx64 q1 q2)), .second, .val (.int (bI (¬ ((mn64 q1 q2) < (1 : Int64))))), .val (.int (bI (¬ ((mx64 q1 q2) < (1 : Int64))))), .val (.int (bI ((¬ ((mn64 q1 q2) < (1 : Int64))) → (¬ ((mx64 q1 q2) < (1 : Int64)))))), .val (.int (bI ((¬ ((1 : Int64) < (1 : Int64))) ∧ (¬ (¬ ((0 : Int64) < (1 : Int64)))))))] [])) _
        refine XS.iconst X25.here hx rfl (hb hby at_80) ?_
        show Steps p.tables e below (T25.setTop (mkF m 81 #[.val (.long q1), .second, .val (.long q2), .second, .val (.long (mn64 q1 q2)), .second, .val (.long (mx64 q1 q2)), .second, .val (.int (bI (¬ ((mn64 q1 q2) < (1 : Int64))))), .val (.int (bI (¬ ((mx64 q1 q2) < (1 : Int64))))), .val (.int (bI ((¬ ((mn64 q1 q2) < (1 : Int64))) → (¬ ((mx64 q1 q2) < (1 : Int64)))))), .val (.int (bI ((¬ ((1 : Int64) < (1 : Int64))) ∧ (¬ (¬ ((0 : Int64) < (1 : Int64)))))))] [(.int (0 : Int32))])) _
        exact kk
    · skip
      refine ⟨T25, _, X25, N25, e25, fun tgt kk => ?_⟩
      have kq36 : ((.int (bI (((¬ ((mn64 q1 q2) < (1 : Int64))) → (¬ ((mx64 q1 q2) < (1 : Int64)))) ∧ ((¬ ((1 : Int64) < (1 : Int64))) ∧ (¬ (¬ ((0 : Int64) < (1 : Int64)))))))) : Value) = (.int (0 : Int32)) := (congrArg Value.int (bI_f (fun q => hc68_30 q.1)))
      rw [kq36] at kk
      refine pre29 tgt ?_
      refine XS.ifYes X25.here hx rfl (pc0 := 68) (pc' := 80) rfl (hb hby at_68) rfl (bB_eq_t hc68_30) (by decide) (by decide) ?_
      show Steps p.tables e below (T25.setTop (mkF m 80 #[.val (.long q1), .second, .val (.long q2), .second, .val (.long (mn64 q1 q2)), .second, .val (.long (mx64 q1 q2)), .second, .val (.int (bI (¬ ((mn64 q1 q2) < (1 : Int64))))), .val (.int (bI (¬ ((mx64 q1 q2) < (1 : Int64))))), .val (.int (bI ((¬ ((mn64 q1 q2) < (1 : Int64))) → (¬ ((mx64 q1 q2) < (1 : Int64)))))), .val (.int (bI ((¬ ((1 : Int64) < (1 : Int64))) ∧ (¬ (¬ ((0 : Int64) < (1 : Int64)))))))] [])) _
      refine XS.iconst X25.here hx rfl (hb hby at_80) ?_
      show Steps p.tables e below (T25.setTop (mkF m 81 #[.val (.long q1), .second, .val (.long q2), .second, .val (.long (mn64 q1 q2)), .second, .val (.long (mx64 q1 q2)), .second, .val (.int (bI (¬ ((mn64 q1 q2) < (1 : Int64))))), .val (.int (bI (¬ ((mx64 q1 q2) < (1 : Int64))))), .val (.int (bI ((¬ ((mn64 q1 q2) < (1 : Int64))) → (¬ ((mx64 q1 q2) < (1 : Int64)))))), .val (.int (bI ((¬ ((1 : Int64) < (1 : Int64))) ∧ (¬ (¬ ((0 : Int64) < (1 : Int64)))))))] [(.int (0 : Int32))])) _
      exact kk
  obtain ⟨fs, hr, hrun, hended, hW, hsame⟩ := X33.leave (v := some (.int (nar .boolean (bI (((¬ ((mn64 q1 q2) < (1 : Int64))) → (¬ ((mx64 q1 q2) < (1 : Int64)))) ∧ ((¬ ((1 : Int64) < (1 : Int64))) ∧ (¬ (¬ ((0 : Int64) < (1 : Int64)))))))))) (fun h => by rw [Bd.returns] at h; cases h)
  refine ⟨_, _, pre33 _ ?_, hrun, hended, _, _, rfl, ?_, ⟨_, rfl⟩, hW, hsame.mono (by decide) (by decide)⟩
  · skip
    exact retN X33 hx (t := .boolean) Bd.returns (by simp) (hb hby at_81) hr
  · show Q0 Z q1 q2 h0 n0 _ T33.heap _
    rw [e33]
    exact ⟨bI_one ⟨own_law q1 q2, by decide⟩, N33⟩
set_option maxRecDepth 65536 in
set_option maxHeartbeats 40000000 in
theorem comes_1 {Post : Tables → Env → Array Value → State → Outcome → State → Prop} (hpost : ∀ tb e args s v u, (limb_1_1.after args s (.returned v) u = true ∧ limb_1_2.after args s (.returned v) u = true ∧ True) → FrameEnd s (.returned v) u (Jvm.fieldLocs frame_1_writes args s ++ Jvm.arrayLocs frame_1_arrays args s ++ Jvm.staticLocs frame_1_statics s) 0 0 → Post tb e args s (.returned v) u) :
    ArmFor flags0 classFile x code maxLocals ret World_1 tables_1 room_1 Calls_1 rest_1 Pre_1 Post := by
  intro l hfl _ _ p e ha hc hk s m args below hf hA hF happ hP
  obtain ⟨hcalls, hrest, hpre⟩ := hP
  obtain ⟨-, -, -, hnamed, -, -, -, hat⟩ := (Spec.applies_iff hf).mp happ
  obtain ⟨hg, hn⟩ := and_e (Cond.before_iff.mp (show (Jvm.Cond.and given_1 narrow_1).before args s = true from hpre))
  obtain ⟨hcount, g0⟩ := and_e hg
  obtain ⟨ga0, g1⟩ := and_e g0
  have ga1 := g1
  obtain ⟨w0, w1, rfl⟩ : ∃ w0 w1 : Value, args = #[w0, w1] := by
    have hs : args.size = 2 := by simpa [Cond.value, given_1] using hcount
    obtain ⟨L⟩ := args
    match L, hs with
    | [w0, w1], _ => exact ⟨w0, w1, rfl⟩
  have hw := fun d (hd : d ∈ tables_1) => atoms_spec (ws := Jvm.Cond.code x code maxLocals ret :: tables_1) hat d (List.mem_cons_of_mem _ hd)
  have hfit : Fit s := fun {y c} hc i hi => by
    obtain ⟨ha, rfl⟩ := Array.getElem?_eq_some_iff.mp hc
    have q := List.all_eq_true.mp ((Array.all_eq_true_iff_forall_mem.mp hF) _ (Array.getElem_mem ha)) i (List.mem_range.mpr hi)
    simpa [Array.getElem?_eq_getElem hi] using q
  obtain ⟨i0, ei0⟩ := isL_v ga0
  obtain rfl : w0 = (.long i0) := Option.some.inj ei0
  obtain ⟨i1, ei1⟩ := isL_v ga1
  obtain rfl : w1 = (.long i1) := Option.some.inj ei1
  obtain ⟨n, o, h1, h2, h3, _, L, rfl, ⟨rfl, N⟩, hq⟩ := rm0 l s _ hw tables_1 i0 i1 s.heap s.heap.size (Nat.le_refl _) p e ha hc hk s m _ below hf ((Spec.applies_iff_loose hf).mp happ).1 ⟨rfl, State.Warmed39.refl s, rfl⟩ trivial
  refine ⟨n, _, h1, h2, h3, hpost _ _ _ _ _ _ ⟨Cond.after_iff.mpr rfl, Cond.after_iff.mpr (eq_i res_at (Term.int_eval (1)) rfl), trivial⟩ ⟨hq.1, hq.2.1, (hq.2.2.sift fun y hy => Or.inr (N y hy)).mono (by decide) (by decide)⟩⟩
theorem main_1_1 : Claimed_1_1 := comes_1 fun _ _ _ _ _ _ h hF => ⟨h.1, hF⟩
theorem main_1_2 : Claimed_1_2 := comes_1 fun _ _ _ _ _ _ h hF => ⟨h.2.1, hF⟩
end Jvm.Pilot.@@N@@
namespace Jvm.Pilot.@@N@@
open Jvm Jvm.ClassFile Sem Op Lib Jvm.Free Jvm.Stand Jvm.Pilot.@@N@@.Jvm.D
/-! MADE BY PROGRAM (witnessworld.py) out of the Statement's table words and the real class files: 10 classes; the members and pool entries that the words name. The judged class is class 1, her method 1. -/
namespace start1
open Jvm.ClassFile
def u (s : String) : CpInfo := .utf8 (stringToUtf16 s)
/-- a pool by its gaps: so many unusable entries, then the entry; so many at the end -/
def gap : Nat → List CpInfo → List CpInfo
  | 0, r => r
  | n + 1, r => .unusable :: gap n r
def poolList (es : List (Nat × CpInfo)) (last : Nat) : List CpInfo := es.foldr (fun e r => gap e.1 (e.2 :: r)) (gap last [])
def pool (es : List (Nat × CpInfo)) (last : Nat) : Array CpInfo := ⟨poolList es last⟩
def fileOf (pool : Array CpInfo) (this : Nat) (attrs : Array Attribute := #[]) (ms : Array MethodInfo := #[]) (fl : Nat := 33) (sup : Nat := 0) (ifs : Array Nat := #[]) (fds : Array FieldInfo := #[]) : ClassFile where
  minorVersion := 0
  majorVersion := 65
  constantPool := pool
  accessFlags := fl
  thisClass := this
  superClass := sup
  interfaces := ifs
  fields := fds
  methods := ms
  attributes := attrs
def plain (name : String) (sup : Option ClassId) : Class where
  name := name
  kind := .ordinary
  loader := none
  accessFlags := 33
  super := sup
  interfaces := #[]
  cf := none
  fields := #[]
  methods := #[]
  instanceTypes := #[]
  staticTypes := #[]
  resolved := #[]
  callSites := []
  init := .initialized
  statics := none
  mirror := none

def pool0 : Array CpInfo := pool [(5, u "<init>"), (0, u "()V"), (1, .class_ 10), (1, u "java/lang/Object")] 113

def k0m0 : Method := { name := "<init>", desc := "()V", sig := { parameters := [], returnType := none }, accessFlags := 1, code := none }
/-- java/lang/Object -/
def k0 : Class := { plain "java/lang/Object" none with
  accessFlags := 33
  interfaces := #[]
  cf := some (fileOf pool0 8 #[] #[{ accessFlags := 1, nameIndex := 5, descriptorIndex := 6, attributes := #[] }] 33 0 #[] #[])
  fields := #[]
  methods := #[k0m0]
  instanceTypes := #[]
  staticTypes := #[]
  resolved := Array.replicate 124 none
  statics := none }

def pool1 : Array CpInfo := pool [(2, .class_ 4), (1, u "java/lang/Object"), (0, u "<init>"), (0, u "()V"), (0, .methodref 8 9), (0, .class_ 10), (0, .nameAndType 11 12), (0, u "java/lang/Math"), (0, u "min"), (0, u "(JJ)J"), (0, .methodref 8 14), (0, .nameAndType 15 12), (0, u "max"), (0, .methodref 17 18), (0, .class_ 19), (0, .nameAndType 20 21), (0, u "com/example/leasehold/leasehold/LeaseRequest"), (0, u "isValidTtl"), (0, u "(J)Z"), (0, .class_ 23), (0, u "com/example/leasehold/leasehold/LeaseRequestIsValidTtlPinLaw"), (2, u "law"), (0, u "(JJ)Z")] 3

def k1m0 : Method := { name := "<init>", desc := "()V", sig := { parameters := [], returnType := none }, accessFlags := 2, code := none }
def k1c1 : Code := { maxStack := 4, maxLocals := 12, code := code, exceptionTable := #[], attributes := #[] }
def k1m1 : Method := { name := "law", desc := "(JJ)Z", sig := { parameters := [.long, .long], returnType := some .boolean }, accessFlags := 9, code := some k1c1 }
/-- com/example/leasehold/leasehold/LeaseRequestIsValidTtlPinLaw -/
def k1 : Class := { plain "com/example/leasehold/leasehold/LeaseRequestIsValidTtlPinLaw" (some 0) with
  accessFlags := 49
  interfaces := #[]
  cf := some (fileOf pool1 22 #[] #[{ accessFlags := 2, nameIndex := 5, descriptorIndex := 6, attributes := #[] }, { accessFlags := 9, nameIndex := 26, descriptorIndex := 27, attributes := #[] }] 49 2 #[] #[])
  fields := #[]
  methods := #[k1m0, k1m1]
  instanceTypes := #[]
  staticTypes := #[]
  resolved := Array.replicate 31 none
  statics := none }

def pool2 : Array CpInfo := pool [(1, .class_ 2), (0, u "java/lang/Math"), (1, .class_ 6), (1, u "java/lang/Object"), (0, u "<init>"), (0, u "()V"), (89, .class_ 100), (1, u "java/lang/Math$RandomNumberGeneratorHolder"), (20, u "(JJ)J"), (50, u "negativeZeroFloatBits"), (0, u "J"), (2, u "negativeZeroDoubleBits"), (21, u "max"), (2, u "min"), (43, u "$assertionsDisabled"), (0, u "Z"), (91, u "twoToTheDoubleScaleDown"), (0, u "D"), (4, u "twoToTheDoubleScaleUp"), (9, u "E"), (3, u "PI"), (2, u "TAU"), (2, u "DEGREES_TO_RADIANS"), (0, u "RADIANS_TO_DEGREES")] 94

def k2m0 : Method := { name := "<init>", desc := "()V", sig := { parameters := [], returnType := none }, accessFlags := 2, code := none }
def k2c1 : Code := { maxStack := 4, maxLocals := 4, code := jdk_29_method_66_code, exceptionTable := #[], attributes := #[] }
def k2m1 : Method := { name := "max", desc := "(JJ)J", sig := { parameters := [.long, .long], returnType := some .long }, accessFlags := 9, code := some k2c1 }
def k2c2 : Code := { maxStack := 4, maxLocals := 4, code := jdk_29_method_70_code, exceptionTable := #[], attributes := #[] }
def k2m2 : Method := { name := "min", desc := "(JJ)J", sig := { parameters := [.long, .long], returnType := some .long }, accessFlags := 9, code := some k2c2 }
/-- java/lang/Math -/
def k2 : Class := { plain "java/lang/Math" (some 0) with
  accessFlags := 49
  interfaces := #[]
  cf := some (fileOf pool2 1 #[.nestMembers #[98]] #[{ accessFlags := 2, nameIndex := 7, descriptorIndex := 8, attributes := #[] }, { accessFlags := 9, nameIndex := 198, descriptorIndex := 121, attributes := #[] }, { accessFlags := 9, nameIndex := 201, descriptorIndex := 121, attributes := #[] }] 49 4 #[] #[{ accessFlags := 25, nameIndex := 354, descriptorIndex := 339, attributes := #[] }, { accessFlags := 25, nameIndex := 358, descriptorIndex := 339, attributes := #[] }, { accessFlags := 25, nameIndex := 361, descriptorIndex := 339, attributes := #[] }, { accessFlags := 26, nameIndex := 364, descriptorIndex := 339, attributes := #[] }, { accessFlags := 26, nameIndex := 365, descriptorIndex := 339, attributes := #[] }, { accessFlags := 26, nameIndex := 172, descriptorIndex := 173, attributes := #[] }, { accessFlags := 26, nameIndex := 176, descriptorIndex := 173, attributes := #[] }, { accessFlags := 8, nameIndex := 344, descriptorIndex := 339, attributes := #[] }, { accessFlags := 8, nameIndex := 338, descriptorIndex := 339, attributes := #[] }, { accessFlags := 4120, nameIndex := 245, descriptorIndex := 246, attributes := #[] }])
  fields := #[{ name := "E", type := .double, accessFlags := 25, slot := 0, constantValue := 0 }, { name := "PI", type := .double, accessFlags := 25, slot := 1, constantValue := 0 }, { name := "TAU", type := .double, accessFlags := 25, slot := 2, constantValue := 0 }, { name := "DEGREES_TO_RADIANS", type := .double, accessFlags := 26, slot := 3, constantValue := 0 }, { name := "RADIANS_TO_DEGREES", type := .double, accessFlags := 26, slot := 4, constantValue := 0 }, { name := "negativeZeroFloatBits", type := .long, accessFlags := 26, slot := 5, constantValue := 0 }, { name := "negativeZeroDoubleBits", type := .long, accessFlags := 26, slot := 6, constantValue := 0 }, { name := "twoToTheDoubleScaleUp", type := .double, accessFlags := 8, slot := 7, constantValue := 0 }, { name := "twoToTheDoubleScaleDown", type := .double, accessFlags := 8, slot := 8, constantValue := 0 }, { name := "$assertionsDisabled", type := .boolean, accessFlags := 4120, slot := 9, constantValue := 0 }]
  methods := #[k2m0, k2m1, k2m2]
  instanceTypes := #[]
  staticTypes := #[.double, .double, .double, .double, .double, .long, .long, .double, .double, .boolean]
  resolved := Array.replicate 460 none
  statics := none }

def pool3 : Array CpInfo := pool [(2, .class_ 4), (1, u "java/lang/Object"), (3, .class_ 10), (1, u "com/example/leasehold/leasehold/LeaseRequest"), (11, u "isValidTtl"), (0, u "(J)Z"), (16, u "holder"), (0, u "Ljava/lang/String;"), (10, u "actor"), (4, u "intent"), (4, u "intentVersion"), (4, u "hostId"), (2, u "pid"), (0, u "J"), (2, u "ttlSeconds"), (50, u "MAX_RECORDED_BYTES"), (0, u "I")] 15

def k3c0 : Code := { maxStack := 4, maxLocals := 2, code := prog_13_method_3_code, exceptionTable := #[], attributes := #[] }
def k3m0 : Method := { name := "isValidTtl", desc := "(J)Z", sig := { parameters := [.long], returnType := some .boolean }, accessFlags := 8, code := some k3c0 }
/-- com/example/leasehold/leasehold/LeaseRequest -/
def k3 : Class := { plain "com/example/leasehold/leasehold/LeaseRequest" (some 0) with
  accessFlags := 48
  interfaces := #[]
  cf := some (fileOf pool3 8 #[] #[{ accessFlags := 8, nameIndex := 22, descriptorIndex := 23, attributes := #[] }] 48 2 #[] #[{ accessFlags := 24, nameIndex := 125, descriptorIndex := 126, attributes := #[] }, { accessFlags := 18, nameIndex := 40, descriptorIndex := 41, attributes := #[] }, { accessFlags := 18, nameIndex := 52, descriptorIndex := 41, attributes := #[] }, { accessFlags := 18, nameIndex := 57, descriptorIndex := 41, attributes := #[] }, { accessFlags := 18, nameIndex := 62, descriptorIndex := 41, attributes := #[] }, { accessFlags := 18, nameIndex := 67, descriptorIndex := 41, attributes := #[] }, { accessFlags := 18, nameIndex := 70, descriptorIndex := 71, attributes := #[] }, { accessFlags := 18, nameIndex := 74, descriptorIndex := 71, attributes := #[] }])
  fields := #[{ name := "MAX_RECORDED_BYTES", type := .int, accessFlags := 24, slot := 0, constantValue := 0 }, { name := "holder", type := (.object "java/lang/String"), accessFlags := 18, slot := 0, constantValue := 0 }, { name := "actor", type := (.object "java/lang/String"), accessFlags := 18, slot := 1, constantValue := 0 }, { name := "intent", type := (.object "java/lang/String"), accessFlags := 18, slot := 2, constantValue := 0 }, { name := "intentVersion", type := (.object "java/lang/String"), accessFlags := 18, slot := 3, constantValue := 0 }, { name := "hostId", type := (.object "java/lang/String"), accessFlags := 18, slot := 4, constantValue := 0 }, { name := "pid", type := .long, accessFlags := 18, slot := 5, constantValue := 0 }, { name := "ttlSeconds", type := .long, accessFlags := 18, slot := 6, constantValue := 0 }]
  methods := #[k3m0]
  instanceTypes := #[(.object "java/lang/String"), (.object "java/lang/String"), (.object "java/lang/String"), (.object "java/lang/String"), (.object "java/lang/String"), .long, .long]
  staticTypes := #[.int]
  resolved := Array.replicate 142 none
  statics := none }

def pool4 : Array CpInfo := pool [(1, u "java/lang/Cloneable"), (0, .class_ 1), (0, u "java/lang/Object"), (0, .class_ 3)] 3

/-- java/lang/Cloneable -/
def k4 : Class := { plain "java/lang/Cloneable" (some 0) with
  accessFlags := 1537
  interfaces := #[]
  cf := some (fileOf pool4 2 #[] #[] 1537 4 #[] #[])
  fields := #[]
  methods := #[]
  instanceTypes := #[]
  staticTypes := #[]
  resolved := Array.replicate 8 none
  statics := none }

def pool5 : Array CpInfo := pool [(1, u "java/io/Serializable"), (0, .class_ 1), (0, u "java/lang/Object"), (0, .class_ 3)] 3

/-- java/io/Serializable -/
def k5 : Class := { plain "java/io/Serializable" (some 0) with
  accessFlags := 1537
  interfaces := #[]
  cf := some (fileOf pool5 2 #[] #[] 1537 4 #[] #[])
  fields := #[]
  methods := #[]
  instanceTypes := #[]
  staticTypes := #[]
  resolved := Array.replicate 8 none
  statics := none }

/-- the primitive byte -/
def k6 : Class := { plain "byte" none with kind := .primitive 'B', accessFlags := 0x411 }
/-- [B -/
def k7 : Class := { plain "[B" (some 0) with kind := .array 6 .byte, interfaces := #[4, 5], accessFlags := 1041 }

/-- the primitive int -/
def k8 : Class := { plain "int" none with kind := .primitive 'I', accessFlags := 0x411 }
/-- [I -/
def k9 : Class := { plain "[I" (some 0) with kind := .array 8 .int, interfaces := #[4, 5], accessFlags := 1041 }

def heap : Heap := #[]
def classes : Array Class := #[k0, k1, k2, k3, k4, k5, k6, k7, k8, k9]
def interned : List (Array UInt16 × Addr) := []
def slotsUsed : Nat := 0
def theMethod : MethodId := ⟨1, 1⟩
def args0 : Array Value := #[.long 5, .long 7]
def aboutOver (below : List Frame) : State where
  vm := { classes := classes, interned := interned.toArray }
  heap := heap
  slotsUsed := slotsUsed
  threads := #[{ frames := .invoking theMethod args0 :: below }]
def below0 : List Frame := [.native { method := ⟨0, 0⟩, args := #[] }]
def about1 : State := aboutOver below0
def p0 : Program := .bare "" "" ""
def e0 : Env := launch0.env 0 0 0
theorem w_frames : about1.frames = Frame.invoking theMethod args0 :: below0 := rfl
set_option maxRecDepth 65536 in
theorem w_args : argsFit about1.vm theMethod args0 = true := by decide +kernel
set_option maxRecDepth 65536 in
theorem w_heap : heapFits about1 = true := by decide +kernel
set_option maxRecDepth 65536 in
theorem w_runnable : about1.curStatus? = some .runnable := by decide +kernel
set_option maxRecDepth 65536 in
theorem w_alone : about1.alone = true := by decide +kernel
set_option maxRecDepth 65536 in
theorem w_named : about1.methodNamed? x = some theMethod := by decide +kernel
set_option maxRecDepth 65536 in
theorem w_hears : about1.hears theMethod below0 = true := by decide +kernel
set_option maxRecDepth 65536 in
theorem w_ripe : about1.ripe theMethod args0 below0 = true := by decide +kernel
theorem w_running : about1.status = .running := rfl
set_option maxRecDepth 65536 in
theorem w_room : about1.hasRoom e0.platform room_1 = true :=
  launch0.hasRoom_least _ room_1 (by decide +kernel) (by decide +kernel) (by decide +kernel) (by decide +kernel) (by decide +kernel) (by decide +kernel)
theorem allAtoms_all (ts : List Jvm.Cond) (a : Array Jvm.Value) (st : Jvm.State) : (allAtoms ts).before a st = ts.all (fun c => c.before a st) := by
  induction ts with
  | nil => rfl
  | cons c t ih =>
    show (Jvm.Cond.and c (allAtoms t)).before a st = _
    rw [Jvm.Cond.before_and, ih, List.all_cons]
def words1 : List Jvm.Cond := Jvm.Cond.code x code maxLocals ret :: tables_1
/-- a 'code' word, met by the world's own term for the bytes: nothing is compared byte by byte -/
theorem code_word {y : MethodName} {bytes : ByteArray} {mx : Nat} {rt : Option FieldType} {a : Array Value} {s : State} {m : MethodId} {meth : Method} {c : Code} (h1 : s.methodNamed? y = some m) (h2 : s.vm.method? m = some meth) (h3 : meth.code = some c) (h4 : c.code = bytes)
    (h5 : (c.maxLocals == mx && c.exceptionTable.isEmpty && decide (c.maxStack ≤ mostOperands) && decide (meth.sig.returnType = rt) && !meth.locks && decide (parseMethodDescriptor y.desc = some meth.sig)) = true) : (Jvm.Cond.code y bytes mx rt).before a s = true := by
  simp only [Bool.and_eq_true, beq_iff_eq, Bool.not_eq_true', decide_eq_true_eq] at h5
  obtain ⟨⟨⟨⟨⟨g1, g2⟩, g3⟩, g4⟩, g5⟩, g6⟩ := h5
  simp [Cond.before, Cond.holds, Cond.value, h1, h2, h3, h4, g1, g2, g3, g4, g5, g6]
def isCode : Jvm.Cond → Bool
  | .code _ _ _ _ => true
  | _ => false
theorem all_split {L : List Jvm.Cond} {P : Jvm.Cond → Bool} (h1 : L.all (fun c => isCode c || P c) = true) (h2 : ∀ c ∈ L.filter isCode, P c = true) : L.all P = true := by
  refine List.all_eq_true.mpr fun c hc => ?_
  have h := List.all_eq_true.mp h1 c hc
  rcases Bool.eq_false_or_eq_true (isCode c) with hi | hi
  · exact h2 c (List.mem_filter.mpr ⟨hc, hi⟩)
  · simpa [hi] using h
set_option maxRecDepth 65536 in
theorem w_c0 : (Jvm.Cond.code x code maxLocals ret).before args0 about1 = true := code_word (m := ⟨1, 1⟩) (meth := k1m1) (c := k1c1) (by decide +kernel) rfl rfl rfl (by decide +kernel)
set_option maxRecDepth 65536 in
theorem w_c1 : (Jvm.Cond.code ({ cls := "java/lang/Math", name := "min", desc := "(JJ)J" } : Jvm.MethodName) jdk_29_method_70_code (4 : Nat) (Option.some Jvm.ClassFile.FieldType.long)).before args0 about1 = true := code_word (m := ⟨2, 2⟩) (meth := k2m2) (c := k2c2) (by decide +kernel) rfl rfl rfl (by decide +kernel)
set_option maxRecDepth 65536 in
theorem w_c2 : (Jvm.Cond.code ({ cls := "java/lang/Math", name := "max", desc := "(JJ)J" } : Jvm.MethodName) jdk_29_method_66_code (4 : Nat) (Option.some Jvm.ClassFile.FieldType.long)).before args0 about1 = true := code_word (m := ⟨2, 1⟩) (meth := k2m1) (c := k2c1) (by decide +kernel) rfl rfl rfl (by decide +kernel)
set_option maxRecDepth 65536 in
theorem w_c3 : (Jvm.Cond.code ({ cls := "com/example/leasehold/leasehold/LeaseRequest", name := "isValidTtl", desc := "(J)Z" } : Jvm.MethodName) prog_13_method_3_code (2 : Nat) (Option.some Jvm.ClassFile.FieldType.boolean)).before args0 about1 = true := code_word (m := ⟨3, 0⟩) (meth := k3m0) (c := k3c0) (by decide +kernel) rfl rfl rfl (by decide +kernel)
def codes1 : List Jvm.Cond := [Jvm.Cond.code x code maxLocals ret, Jvm.Cond.code ({ cls := "java/lang/Math", name := "min", desc := "(JJ)J" } : Jvm.MethodName) jdk_29_method_70_code (4 : Nat) (Option.some Jvm.ClassFile.FieldType.long), Jvm.Cond.code ({ cls := "java/lang/Math", name := "max", desc := "(JJ)J" } : Jvm.MethodName) jdk_29_method_66_code (4 : Nat) (Option.some Jvm.ClassFile.FieldType.long), Jvm.Cond.code ({ cls := "com/example/leasehold/leasehold/LeaseRequest", name := "isValidTtl", desc := "(J)Z" } : Jvm.MethodName) prog_13_method_3_code (2 : Nat) (Option.some Jvm.ClassFile.FieldType.boolean)]
set_option maxRecDepth 65536 in
theorem codes_eq : words1.filter isCode = codes1 := rfl
theorem w_codes : ∀ c ∈ words1.filter isCode, c.before args0 about1 = true := by
  rw [codes_eq]
  intro c hc
  simp only [codes1, List.mem_cons, List.not_mem_nil, or_false] at hc
  rcases hc with rfl | rfl | rfl | rfl
  · exact w_c0
  · exact w_c1
  · exact w_c2
  · exact w_c3
set_option maxRecDepth 65536 in
theorem w_t1 : words1.all (fun c => isCode c || c.before args0 about1) = true := by decide +kernel
theorem w_tables : (allAtoms (Jvm.Cond.code x code maxLocals ret :: tables_1)).before args0 about1 = true := by
  rw [allAtoms_all]
  show words1.all (fun c => c.before args0 about1) = true
  refine all_split ?_ w_codes
  rw [w_t1]
set_option maxRecDepth 65536 in
theorem w_case : (Jvm.Cond.and given_1 narrow_1).before args0 about1 = true := by decide +kernel
theorem w_applies : (headSpec (Jvm.Cond.code x code maxLocals ret :: tables_1) room_1).applies x e0.platform about1 = true :=
  (Spec.applies_iff w_frames).mpr ⟨w_running, w_runnable, w_alone, w_named, w_hears, w_ripe, w_room, w_tables⟩
theorem atStart : AtStart classFile x code maxLocals ret World_1 tables_1 room_1 Calls_1 rest_1 Pre_1 launch0 p0 e0 about1 theMethod args0 below0 :=
  ⟨lists_1, trivial, launch0.admits_env _ _ _, launch0.least_env, fairChoices_fair.cas, fairChoices_fair.clock, w_frames, w_args, w_heap, w_applies, trivial, trivial, w_case⟩
end start1
theorem witness_1 : WitnessClaimed_1 := ⟨start1.p0, start1.e0, start1.about1, start1.theMethod, start1.args0, start1.below0, start1.atStart⟩
end Jvm.Pilot.@@N@@
