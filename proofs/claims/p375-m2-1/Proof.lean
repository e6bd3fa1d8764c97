import JvmDerived
import JvmDerived.Pilot.@@N@@Statement
import JvmDerived.Pilot.@@N@@Code
set_option linter.unusedVariables false
set_option linter.unusedSimpArgs false
namespace Jvm.RoadKit
open Sem ClassFile Op Lib Jvm.Stand Jvm.Free Jvm.LawKit
section New
variable {p : Program} {l : Launch} {e : Env} {R : Room} {s : State} {m : MethodId} {args : Array Value} {below : List Frame} {meth : Method} {c : Code} {T : State} {locs : List Loc} {cells slots : Nat}
theorem retI (X : Stand p l e R s m args below meth c T locs cells slots) (hx : p.tables.exec = Jvm.exec) {pc : Nat} {Ls : Array Slot} {z : Int32} {rest : List Value} (hret : meth.sig.returnType = some .int) (hd : decode c.code pc = .ok (.ireturn, 1)) {fs : List Frame}
    (hl : ∀ (f : JFrame) (acts : List Action), f.method = m → f.locked = none → f.entered = [] → (doReturn e (T.setTop f) acts (some (.int z))).1 = T.setFrames fs) : Steps p.tables e below (T.setTop (mkF m pc Ls (.int z :: rest))) (T.setFrames fs) := by
  have hm' : T.vm.method? m = some meth := X.method'
  have hn : narrow .int (.int z) = .int z := rfl
  show Steps p.tables e below (T.setTop { method := m, pc := pc, locals := Ls, stack := _ :: rest, locked := none }) _
  jvm_step X.here [X.here.top, hx, hd, hm', hret, hn]
  first | (intro acts; rw [hl _ acts rfl rfl rfl]) | rw [hl _ _ rfl rfl rfl]
  exact Steps.refl _
end New
theorem own_sta_keep {Z : State} {h h' : Heap} {C n d : String} {v : Value} {ws : List Addr} (F : Sta Z h C n d v) (K : Keep h h' ws) (q : ∀ x ∈ ws, ∀ c : Cell, h[x]? = some c → c.vm.isStatics = false) : Sta Z h' C n d v := by
  obtain ⟨cf, i, k, f, st, cell, h1, h2, h3, h4, h5, h6, h7⟩ := F
  exact ⟨cf, i, k, f, st, cell, h1, h2, h3, h4, K.2.1 st cell h5 (fun hm => by rw [q st hm cell h5] at h6; cases h6), h6, h7⟩
theorem own_plain_Exa {Z : State} {h : Heap} {a : Addr} {C : String} (F : Exa Z h a C) : ∀ c : Cell, h[a]? = some c → c.vm.isStatics = false := fun c hc => by
  obtain ⟨cell, _, h1, -, -, h4, -⟩ := F
  cases h1.symm.trans hc; exact h4
theorem own_plain_Arv {Z : State} {h : Heap} {a : Addr} {k : ClassId} {ty : FieldType} {n : Int32} {vs : List Value} {d : Value} (F : Arv Z h a k ty n vs d) : ∀ c : Cell, h[a]? = some c → c.vm.isStatics = false := fun c hc => by
  obtain ⟨cell, A, -⟩ := F
  cases A.1.symm.trans hc; exact A.plain
end Jvm.RoadKit
namespace Jvm.Pilot.@@N@@
open Jvm Jvm.ClassFile Sem Op Lib Jvm.Free Jvm.Stand Jvm.LawKit Jvm.RoadKit Bundle Jvm.Pilot.@@N@@.Jvm.D
def bI (P : Prop) [Decidable P] : Int32 := if P then 1 else 0
theorem bI_eq {P Q : Prop} [Decidable P] [Decidable Q] : bI P = bI Q ↔ (P ↔ Q) := by unfold bI; by_cases h : P <;> by_cases g : Q <;> simp [h, g]
theorem bI_eq1 {P : Prop} [Decidable P] : bI P = 1 ↔ P := by unfold bI; by_cases h : P <;> simp [h]
theorem bI_1eq {P : Prop} [Decidable P] : 1 = bI P ↔ P := by unfold bI; by_cases h : P <;> simp [h]
theorem bI_eq0 {P : Prop} [Decidable P] : bI P = 0 ↔ (P ↔ False) := by unfold bI; by_cases h : P <;> simp [h]
theorem bI_0eq {P : Prop} [Decidable P] : 0 = bI P ↔ (False ↔ P) := by unfold bI; by_cases h : P <;> simp [h]
theorem bI_t {P : Prop} [Decidable P] (h : P) : bI P = 1 := if_pos h
theorem bI_f {P : Prop} [Decidable P] (h : ¬ P) : bI P = 0 := if_neg h
theorem bI_iff {P Q : Prop} [Decidable P] [Decidable Q] (h : P ↔ Q) : bI P = bI Q := bI_eq.mpr h
theorem imp_iff_h {P Q : Prop} (h : P) : (P → Q) ↔ Q := ⟨fun f => f h, fun q _ => q⟩
theorem sel_t {P A B : Prop} (h : P) : ((P ∧ A) ∨ (¬ P ∧ B)) ↔ A := ⟨fun q => q.elim (fun z => z.2) (fun z => absurd h z.1), fun a => Or.inl ⟨h, a⟩⟩
theorem sel_f {P A B : Prop} (h : ¬ P) : ((P ∧ A) ∨ (¬ P ∧ B)) ↔ B := ⟨fun q => q.elim (fun z => absurd z.1 h) (fun z => z.2), fun b => Or.inr ⟨h, b⟩⟩
theorem bB_eq_t {P : Prop} [Decidable P] (h : ¬ P) : ifCond.holds .eq (bI P) = true := by rw [bI_f h]; rfl
theorem bB_eq_f {P : Prop} [Decidable P] (h : P) : ifCond.holds .eq (bI P) = false := by rw [bI_t h]; rfl
theorem bB_ne_t {P : Prop} [Decidable P] (h : P) : ifCond.holds .ne (bI P) = true := by rw [bI_t h]; rfl
theorem bB_ne_f {P : Prop} [Decidable P] (h : ¬ P) : ifCond.holds .ne (bI P) = false := by rw [bI_f h]; rfl
theorem bI_nar {P : Prop} [Decidable P] : nar .boolean (bI P) = bI P := by by_cases h : P <;> simp only [bI, h, if_true, if_false] <;> rfl
theorem bI_ret {P : Prop} [Decidable P] : (some (.int (nar .boolean (bI P))) : Option Value) = some (.int (bI P)) := by rw [bI_nar]
theorem bI_one {P : Prop} [Decidable P] (h : P) : (some (.int (nar .boolean (bI P))) : Option Value) = some (.int 1) := by rw [bI_nar, bI_t h]
theorem own_ite_ref {P : Prop} [Decidable P] {x y : Value} (h : x.isRef = true) (g : y.isRef = true) : (if P then x else y).isRef = true := by by_cases q : P <;> simp [q, h, g]
theorem own_fits_ref {t : FieldType} {x : Value} (ht : t.isReference = true) (h : x.isRef = true) : fits t x = true := by cases t <;> first | (cases ht; done) | (cases x <;> simp_all [fits, Value.isRef])
theorem own_eqI {args : Array Value} {s : State} {t : Term} {k : Int32} (h : (Cond.eq t (.int k)).value args s none s [] = some true) : t.eval args s none [] s = some (.int k) := by
  simp only [Cond.value, Term.eval] at h
  cases ht : t.eval args s none [] s with
  | none => simp [ht] at h
  | some v => cases v <;> simp [ht] at h ⊢; exact h
theorem own_eqR {args : Array Value} {s : State} {t u : Term} {v : Value} (hu : u.eval args s none [] s = some v) (hv : v.isRef = true) (h : (Cond.eq t u).value args s none s [] = some true) : t.eval args s none [] s = some v := by
  cases ht : t.eval args s none [] s with
  | none => simp [Cond.value, ht, hu] at h
  | some x =>
    rcases ref_cases hv with rfl | ⟨a, rfl⟩ <;> cases x <;> simp [Cond.value, ht, hu] at h ⊢ <;> exact h
theorem own_len {args : Array Value} {s : State} {t : Term} {a : Addr} {c : Cell} {ty : FieldType} {k : Int32} (ev : t.eval args s none [] s = some (.ref a)) (A : Arr s s.heap a c ty) (h : (Term.length t).eval args s none [] s = some (.int k)) : c.slots.size < 2 ^ 31 ∧ c.slots.size.toInt32 = k := by
  have ha := A.fin (Vm.Alike.refl _)
  by_cases q : c.slots.size < 2 ^ 31
  · rw [len_f ev ha q] at h; exact ⟨q, by injection h with h; injection h⟩
  · simp [Term.eval, ev, ha, q] at h


def own_first (t p : Int32) : Int32 := ((1 : Int32) + (((t - p) * ((t - p) + (1 : Int32))) / (2 : Int32)))
theorem own_first_int {t p : Int32} (h1 : 0 ≤ p.toInt) (h2 : p.toInt ≤ t.toInt) (h3 : t.toInt ≤ 46340) : (own_first t p).toInt = 1 + ((t.toInt - p.toInt) * ((t.toInt - p.toInt) + 1)) / 2 := by
  have e1 : (t - p).toInt = t.toInt - p.toInt := XT.sub32 ⟨by omega, by omega⟩
  have o1 : (1 : Int32).toInt = 1 := rfl
  have e2 : ((t - p) + (1 : Int32)).toInt = t.toInt - p.toInt + 1 := by rw [XT.add32 (x := t - p) (y := 1) ⟨by rw [e1, o1]; omega, by rw [e1, o1]; omega⟩, e1, o1]
  generalize hd : t.toInt - p.toInt = d at *
  have hm : d * (d + 1) ≤ 46340 * 46341 := Int.mul_le_mul (by omega) (by omega) (by omega) (by omega)
  have hm0 : 0 ≤ d * (d + 1) := Int.mul_nonneg (by omega) (by omega)
  have e3 : ((t - p) * ((t - p) + (1 : Int32))).toInt = d * (d + 1) := by
    rw [XT.mul32 (x := t - p) (y := (t - p) + (1 : Int32)) ⟨by rw [e1, e2]; omega, by rw [e1, e2]; omega⟩, e1, e2]
  have e4 : (((t - p) * ((t - p) + (1 : Int32))) / (2 : Int32)).toInt = d * (d + 1) / 2 := by
    rw [(c_idiv _ (2 : Int32) 2 rfl (by decide)).1 (by rw [e3]; exact hm0), e3]
  unfold own_first
  rw [XT.add32 (x := 1) ⟨by rw [e4, o1]; omega, by rw [e4, o1]; omega⟩, e4, o1]
theorem own_top (t : Int32) : 0 ≤ ((t &&& (2147483647 : Int32)) % (46341 : Int32)).toInt ∧ ((t &&& (2147483647 : Int32)) % (46341 : Int32)).toInt ≤ 46340 := by
  have h := c_and t (2147483647 : Int32) (by decide)
  have g := (c_irem (t &&& (2147483647 : Int32)) (46341 : Int32) 46341 rfl).1 h.1
  omega
theorem own_a (t : Int32) : own_first ((t &&& (2147483647 : Int32)) % (46341 : Int32)) ((t &&& (2147483647 : Int32)) % (46341 : Int32)) = (1 : Int32) := by
  have h := own_top t
  generalize ((t &&& (2147483647 : Int32)) % (46341 : Int32)) = u at *
  refine Int32.toInt_inj.mp ?_
  rw [own_first_int h.1 (Int.le_refl _) h.2]
  simp
theorem own_b (t x : Int32) (ht : ¬ (t &&& (2147483647 : Int32)) % (46341 : Int32) = 0) :
    (own_first ((t &&& (2147483647 : Int32)) % (46341 : Int32)) (((1 : Int32) + ((x &&& (2147483647 : Int32)) % ((t &&& (2147483647 : Int32)) % (46341 : Int32)))) - (1 : Int32))).toInt64 =
    ((own_first ((t &&& (2147483647 : Int32)) % (46341 : Int32)) ((1 : Int32) + ((x &&& (2147483647 : Int32)) % ((t &&& (2147483647 : Int32)) % (46341 : Int32))))).toInt64 + ((((t &&& (2147483647 : Int32)) % (46341 : Int32)) - ((1 : Int32) + ((x &&& (2147483647 : Int32)) % ((t &&& (2147483647 : Int32)) % (46341 : Int32))))) + (1 : Int32)).toInt64) := by
  have h := own_top t
  have hx := c_and x (2147483647 : Int32) (by decide)
  generalize ((t &&& (2147483647 : Int32)) % (46341 : Int32)) = u at *
  generalize (x &&& (2147483647 : Int32)) = y at *
  have hu : 0 < u.toInt := by
    rcases Int.lt_or_eq_of_le h.1 with q | q
    · exact q
    · exact absurd (Int32.toInt_inj.mp (q.symm.trans rfl)) ht
  have hr := (c_iremV y u).1 hx.1 hu
  generalize y % u = r at *
  have o1 : (1 : Int32).toInt = 1 := rfl
  have e1 : ((1 : Int32) + r).toInt = 1 + r.toInt := by rw [XT.add32 (x := 1) ⟨by rw [o1]; omega, by rw [o1]; omega⟩, o1]
  have e2 : (((1 : Int32) + r) - (1 : Int32)).toInt = r.toInt := by rw [XT.sub32 (x := 1 + r) ⟨by rw [e1, o1]; omega, by rw [e1, o1]; omega⟩, e1, o1]; omega
  have e3 : (u - ((1 : Int32) + r)).toInt = u.toInt - (1 + r.toInt) := by rw [XT.sub32 (x := u) ⟨by rw [e1]; omega, by rw [e1]; omega⟩, e1]
  have e4 : ((u - ((1 : Int32) + r)) + (1 : Int32)).toInt = u.toInt - r.toInt := by rw [XT.add32 (x := u - (1 + r)) ⟨by rw [e3, o1]; omega, by rw [e3, o1]; omega⟩, e3, o1]; omega
  have f1 := own_first_int (t := u) (p := 1 + r) (by omega) (by omega) h.2
  have f2 := own_first_int (t := u) (p := 1 + r - 1) (by omega) (by omega) h.2
  rw [e1] at f1
  rw [e2] at f2
  have hb : (own_first u (1 + r)).toInt.natAbs < 2 ^ 31 + 1 := by have := rng32 (own_first u (1 + r)); omega
  refine Int64.toInt_inj.mp ?_
  have k1 := rng32 (own_first u (1 + r))
  rw [XT.add64 ⟨by rw [c_i2l, c_i2l, e4]; omega, by rw [c_i2l, c_i2l, e4]; omega⟩, c_i2l, c_i2l, c_i2l, e4, f1, f2]
  generalize hd : u.toInt - (1 + r.toInt) = d at *
  have hd2 : u.toInt - r.toInt = d + 1 := by omega
  rw [hd2]
  have hq : (d + 1) * (d + 1 + 1) = d * (d + 1) + 2 * (d + 1) := by rw [Int.mul_add (d + 1) (d + 1) 1, Int.add_mul d 1 (d + 1)]; omega
  rw [hq]; omega

theorem d1_0 : decode prog_7_method_1_code 0 = .ok (.aload_n 0, 1) := by decide +kernel
theorem d1_1 : decode prog_7_method_1_code 1 = .ok (.invokespecial 1, 3) := by decide +kernel
theorem d1_4 : decode prog_7_method_1_code 4 = .ok (.aload_n 0, 1) := by decide +kernel
theorem d1_5 : decode prog_7_method_1_code 5 = .ok (.iload_n 1, 1) := by decide +kernel
theorem d1_6 : decode prog_7_method_1_code 6 = .ok (.putfield 7, 3) := by decide +kernel
theorem d1_9 : decode prog_7_method_1_code 9 = .ok (.return_, 1) := by decide +kernel
theorem pn_1 : plainName "com/example/narrow_bound/narrowbound/analysis/MergedDates" = true := by first | (simp [plainName, overriddenIn]; done) | decide +kernel
theorem ef_rm1 (m : MethodId) (x0 : Addr) (x1 : Int32) : entryFrame m #[(.ref x0), (.int x1)] 2 = mkF m 0 #[.val (.ref x0), .val (.int x1)] [] := by first | (simp [entryFrame, mkF, argsToLocals, Value.category]; done) | rfl
def Q1 (Z : State) (a : Addr) (p1 : Int32) (h0 : Heap) (n0 : Nat) (v : Option Value) (h : Heap) (L : List Loc) : Prop := v = none ∧ Fr n0 L ∧ Keep h0 h [a] ∧ Fld Z h a "com/example/narrow_bound/narrowbound/analysis/MergedDates" "top" "I" (.int p1)
set_option maxRecDepth 65536 in
set_option maxHeartbeats 40000000 in
theorem rm1 (l : Launch) (Z : State) (a0 : Array Value) (hw : ∀ d ∈ tables_1, d.before a0 Z = true) (ws : List Jvm.Cond) (a : Addr) (p1 : Int32) (h0 : Heap) (n0 : Nat) (Z0 : n0 ≤ h0.size) (E_a : Exa Z h0 a "com/example/narrow_bound/narrowbound/analysis/MergedDates") (F_top : Fld Z h0 a "com/example/narrow_bound/narrowbound/analysis/MergedDates" "top" "I" (.int (0 : Int32))) (g_a : n0 ≤ a) :
    MetFree l (⟨"com/example/narrow_bound/narrowbound/analysis/MergedDates", "<init>", "(I)V"⟩ : MethodName) (head1 (Jvm.Cond.code (⟨"com/example/narrow_bound/narrowbound/analysis/MergedDates", "<init>", "(I)V"⟩ : MethodName) prog_7_method_1_code 2 none :: ws) ({ frames := 1, cells := 0, slots := 0, locals := 12 } : Room)) (fun ar UU => ar = #[(.ref a), (.int p1)] ∧ Z.Warmed39 UU.vm ∧ UU.heap = h0) (fun _ _ _ _ _ => True) (fun _ UU oo UU' => ∃ vv LL, oo = .returned vv ∧ Q1 Z a p1 h0 n0 vv UU'.heap LL ∧ FrameEnd UU oo UU' LL ({ frames := 1, cells := 0, slots := 0, locals := 12 } : Room).cells ({ frames := 1, cells := 0, slots := 0, locals := 12 } : Room).slots) := by
  refine MetFree.of_bodySF (plainFor_of_name pn_1) hisR ?_
  intro p e s m args below meth c s₁ Bd hml0 hP hK
  obtain ⟨rfl, hZ, hh⟩ := hP
  have hx := Bd.exec
  have hby := Bd.bytes
  have hml : c.maxLocals = 2 := hml0
  have hown : s.vm.findClass "com/example/narrow_bound/narrowbound/analysis/MergedDates" = some m.cls := findClass_of_methodNamed Bd.named
  have hnm := (name_of_methodNamed Bd.named Bd.method).1
  have X0 : Stand p l e ({ frames := 1, cells := 0, slots := 0, locals := 12 } : Room) s m #[(.ref a), (.int p1)] below meth c s₁ [] 0 0 := Stand.of_body Bd
  have e0 : s₁.heap = h0 := by rw [← hh, Bd.state]; rfl
  have N0 := Fr.nil n0
  have KC0 : Keep h0 h0 [a] := Keep.refl h0 [a]
  have pre0 : ∀ tgt, Steps p.tables e below (s₁.setTop (mkF m 0 #[.val (.ref a), .val (.int p1)] [])) tgt → Steps p.tables e below (s₁.setTop (entryFrame m #[(.ref a), (.int p1)] 2)) tgt := fun tgt kk => castTop (ef_rm1 m (a) (p1)) kk
  have pre1 : ∀ tgt, Steps p.tables e below (s₁.setTop (mkF m 1 #[.val (.ref a), .val (.int p1)] [(.ref a)])) tgt → Steps p.tables e below (s₁.setTop (entryFrame m #[(.ref a), (.int p1)] 2)) tgt := by
    intro tgt kk
    refine pre0 tgt ?_
    refine XS.aloadN X0.here hx rfl (hb hby d1_0) rfl rfl ?_
    show Steps p.tables e below (s₁.setTop (mkF m 1 #[.val (.ref a), .val (.int p1)] [(.ref a)])) _
    exact kk
  obtain ⟨T2, X2, e2, st2⟩ := initO X0 hx hZ hown (hw _ (List.mem_of_getElem? (i := 8) rfl)) (hw _ (List.mem_of_getElem? (i := 9) rfl)) (hw _ (List.mem_of_getElem? (i := 10) rfl)) e0 (g := (mkF m 1 #[.val (.ref a), .val (.int p1)] [(.ref a)])) rfl (by rw [hml]; rfl) rfl (hb hby d1_1) (by decide) (W := 0) (by show 2 * 0 + _ ≤ _; exact Nat.le_of_eq rfl) (by decide)
  have pre3 : ∀ tgt, Steps p.tables e below (T2.setTop (mkF m 6 #[.val (.ref a), .val (.int p1)] [(.int p1), (.ref a)])) tgt → Steps p.tables e below (s₁.setTop (entryFrame m #[(.ref a), (.int p1)] 2)) tgt := by
    intro tgt kk
    refine pre1 tgt ?_
    refine st2 _ ?_
    show Steps p.tables e below (T2.setTop (mkF m 4 #[.val (.ref a), .val (.int p1)] [])) _
    refine XS.aloadN X2.here hx rfl (hb hby d1_4) rfl rfl ?_
    show Steps p.tables e below (T2.setTop (mkF m 5 #[.val (.ref a), .val (.int p1)] [(.ref a)])) _
    refine XS.iloadN X2.here hx rfl (hb hby d1_5) rfl ?_
    show Steps p.tables e below (T2.setTop (mkF m 6 #[.val (.ref a), .val (.int p1)] [(.int p1), (.ref a)])) _
    exact kk
  obtain ⟨T4, h4, X4, e4, W4, st4⟩ := putF X2 hx hZ hown (host := "") (Or.inl (hw _ (List.mem_of_getElem? (i := 11) rfl))) Via.refl e2 F_top E_a (Or.inr ⟨(hw _ (List.mem_of_getElem? (i := 12) rfl)), rfl, hnm⟩) (hw _ (List.mem_of_getElem? (i := 3) rfl)) (ty := .int) (by decide) rfl rfl (g := (mkF m 6 #[.val (.ref a), .val (.int p1)] [(.int p1), (.ref a)])) rfl rfl (hb hby d1_6)
  have N4 := Fr.snoc X4 N0 g_a
  have Fq4 : Fld Z h4 a "com/example/narrow_bound/narrowbound/analysis/MergedDates" "top" "I" (.int p1) := F_top.same W4
  have E_a : Exa Z h4 a "com/example/narrow_bound/narrowbound/analysis/MergedDates" := E_a.wr W4
  have Zs5 : n0 ≤ h4.size := Nat.le_trans Z0 (Keep.of_wr W4).1
  have KC5 : Keep h0 h4 [a] := KC0.wr W4 (Or.inl (List.mem_of_getElem? (i := 0) rfl))
  have F_top := Fq4
  obtain ⟨fs, hr, hrun, hended, hW, hsame⟩ := X4.leave (v := none) (fun _ => rfl)
  refine ⟨_, _, pre3 _ ?_, hrun, hended, _, _, rfl, ?_, ⟨_, rfl⟩, hW, hsame.mono (by decide) (by decide)⟩
  · skip
    refine st4 _ ?_
    show Steps p.tables e below (T4.setTop (mkF m 9 #[.val (.ref a), .val (.int p1)] [])) _
    exact X4.returnOut hx Bd.returns (hb hby d1_9) hr
  · show Q1 Z a p1 h0 n0 _ T4.heap _
    rw [e4]
    exact ⟨rfl, N4, KC5, F_top⟩
theorem d3_0 : decode prog_7_method_2_code 0 = .ok (.aload_n 0, 1) := by decide +kernel
theorem d3_1 : decode prog_7_method_2_code 1 = .ok (.getfield 7, 3) := by decide +kernel
theorem d3_4 : decode prog_7_method_2_code 4 = .ok (.iload_n 1, 1) := by decide +kernel
theorem d3_5 : decode prog_7_method_2_code 5 = .ok (.isub, 1) := by decide +kernel
theorem d3_6 : decode prog_7_method_2_code 6 = .ok (.istore_n 2, 1) := by decide +kernel
theorem d3_7 : decode prog_7_method_2_code 7 = .ok (.iconst 1, 1) := by decide +kernel
theorem d3_8 : decode prog_7_method_2_code 8 = .ok (.iload_n 2, 1) := by decide +kernel
theorem d3_9 : decode prog_7_method_2_code 9 = .ok (.iload_n 2, 1) := by decide +kernel
theorem d3_10 : decode prog_7_method_2_code 10 = .ok (.iconst 1, 1) := by decide +kernel
theorem d3_11 : decode prog_7_method_2_code 11 = .ok (.iadd, 1) := by decide +kernel
theorem d3_12 : decode prog_7_method_2_code 12 = .ok (.imul, 1) := by decide +kernel
theorem d3_13 : decode prog_7_method_2_code 13 = .ok (.iconst 2, 1) := by decide +kernel
theorem d3_14 : decode prog_7_method_2_code 14 = .ok (.idiv, 1) := by decide +kernel
theorem d3_15 : decode prog_7_method_2_code 15 = .ok (.iadd, 1) := by decide +kernel
theorem d3_16 : decode prog_7_method_2_code 16 = .ok (.ireturn, 1) := by decide +kernel
theorem pn_3 : plainName "com/example/narrow_bound/narrowbound/analysis/MergedDates" = true := by first | (simp [plainName, overriddenIn]; done) | decide +kernel
theorem ef_rm3 (m : MethodId) (x0 : Addr) (x1 : Int32) : entryFrame m #[(.ref x0), (.int x1)] 3 = mkF m 0 #[.val (.ref x0), .val (.int x1), .unset] [] := by first | (simp [entryFrame, mkF, argsToLocals, Value.category]; done) | rfl
def Q3 (Z : State) (a : Addr) (t : Int32) (p1 : Int32) (h0 : Heap) (n0 : Nat) (v : Option Value) (h : Heap) (L : List Loc) : Prop := v = some (.int (own_first t p1)) ∧ Fr n0 L ∧ h = h0
set_option maxRecDepth 65536 in
set_option maxHeartbeats 40000000 in
theorem rm3 (l : Launch) (Z : State) (a0 : Array Value) (hw : ∀ d ∈ tables_1, d.before a0 Z = true) (ws : List Jvm.Cond) (a : Addr) (t : Int32) (p1 : Int32) (h0 : Heap) (n0 : Nat) (Z0 : n0 ≤ h0.size) (F_top : Fld Z h0 a "com/example/narrow_bound/narrowbound/analysis/MergedDates" "top" "I" (.int t)) :
    MetFree l (⟨"com/example/narrow_bound/narrowbound/analysis/MergedDates", "first", "(I)I"⟩ : MethodName) (head1 (Jvm.Cond.code (⟨"com/example/narrow_bound/narrowbound/analysis/MergedDates", "first", "(I)I"⟩ : MethodName) prog_7_method_2_code 3 (some .int) :: ws) ({ frames := 0, cells := 0, slots := 0, locals := 0 } : Room)) (fun ar UU => ar = #[(.ref a), (.int p1)] ∧ Z.Warmed39 UU.vm ∧ UU.heap = h0) (fun _ _ _ _ _ => True) (fun _ UU oo UU' => ∃ vv LL, oo = .returned vv ∧ Q3 Z a t p1 h0 n0 vv UU'.heap LL ∧ FrameEnd UU oo UU' LL ({ frames := 0, cells := 0, slots := 0, locals := 0 } : Room).cells ({ frames := 0, cells := 0, slots := 0, locals := 0 } : Room).slots) := by
  refine MetFree.of_bodySF (plainFor_of_name pn_3) hisR ?_
  intro p e s m args below meth c s₁ Bd hml0 hP hK
  obtain ⟨rfl, hZ, hh⟩ := hP
  have hx := Bd.exec
  have hby := Bd.bytes
  have hml : c.maxLocals = 3 := hml0
  have hown : s.vm.findClass "com/example/narrow_bound/narrowbound/analysis/MergedDates" = some m.cls := findClass_of_methodNamed Bd.named
  have hnm := (name_of_methodNamed Bd.named Bd.method).1
  have X0 : Stand p l e ({ frames := 0, cells := 0, slots := 0, locals := 0 } : Room) s m #[(.ref a), (.int p1)] below meth c s₁ [] 0 0 := Stand.of_body Bd
  have e0 : s₁.heap = h0 := by rw [← hh, Bd.state]; rfl
  have N0 := Fr.nil n0
  have KC0 : Keep h0 h0 [] := Keep.refl h0 []
  have pre0 : ∀ tgt, Steps p.tables e below (s₁.setTop (mkF m 0 #[.val (.ref a), .val (.int p1), .unset] [])) tgt → Steps p.tables e below (s₁.setTop (entryFrame m #[(.ref a), (.int p1)] 3)) tgt := fun tgt kk => castTop (ef_rm3 m (a) (p1)) kk
  have pre1 : ∀ tgt, Steps p.tables e below (s₁.setTop (mkF m 1 #[.val (.ref a), .val (.int p1), .unset] [(.ref a)])) tgt → Steps p.tables e below (s₁.setTop (entryFrame m #[(.ref a), (.int p1)] 3)) tgt := by
    intro tgt kk
    refine pre0 tgt ?_
    refine XS.aloadN X0.here hx rfl (hb hby d3_0) rfl rfl ?_
    show Steps p.tables e below (s₁.setTop (mkF m 1 #[.val (.ref a), .val (.int p1), .unset] [(.ref a)])) _
    exact kk
  obtain ⟨T2, X2, e2, st2⟩ := getF X0 hx hZ hown (host := "") (Or.inl (hw _ (List.mem_of_getElem? (i := 11) rfl))) Via.refl e0 F_top (g := (mkF m 1 #[.val (.ref a), .val (.int p1), .unset] [(.ref a)])) rfl rfl (hb hby d3_1)
  obtain ⟨fs, hr, hrun, hended, hW, hsame⟩ := X2.leave (v := some (.int ((1 : Int32) + (((t - p1) * ((t - p1) + (1 : Int32))) / (2 : Int32))))) (fun h => by rw [Bd.returns] at h; cases h)
  refine ⟨_, _, pre1 _ ?_, hrun, hended, _, _, rfl, ?_, ⟨_, rfl⟩, hW, hsame.mono (by decide) (by decide)⟩
  · skip
    refine st2 _ ?_
    show Steps p.tables e below (T2.setTop (mkF m 4 #[.val (.ref a), .val (.int p1), .unset] [(.int t)])) _
    refine XS.iloadN X2.here hx rfl (hb hby d3_4) rfl ?_
    show Steps p.tables e below (T2.setTop (mkF m 5 #[.val (.ref a), .val (.int p1), .unset] [(.int p1), (.int t)])) _
    refine XS.isub X2.here hx rfl (hb hby d3_5) rfl ?_
    show Steps p.tables e below (T2.setTop (mkF m 6 #[.val (.ref a), .val (.int p1), .unset] [(.int (t - p1))])) _
    refine XS.istoreN X2.here hx rfl (hb hby d3_6) rfl (l' := #[.val (.ref a), .val (.int p1), .val (.int (t - p1))]) rfl ?_
    show Steps p.tables e below (T2.setTop (mkF m 7 #[.val (.ref a), .val (.int p1), .val (.int (t - p1))] [])) _
    refine XS.iconst X2.here hx rfl (hb hby d3_7) ?_
    show Steps p.tables e below (T2.setTop (mkF m 8 #[.val (.ref a), .val (.int p1), .val (.int (t - p1))] [(.int (1 : Int32))])) _
    refine XS.iloadN X2.here hx rfl (hb hby d3_8) rfl ?_
    show Steps p.tables e below (T2.setTop (mkF m 9 #[.val (.ref a), .val (.int p1), .val (.int (t - p1))] [(.int (t - p1)), (.int (1 : Int32))])) _
    refine XS.iloadN X2.here hx rfl (hb hby d3_9) rfl ?_
    show Steps p.tables e below (T2.setTop (mkF m 10 #[.val (.ref a), .val (.int p1), .val (.int (t - p1))] [(.int (t - p1)), (.int (t - p1)), (.int (1 : Int32))])) _
    refine XS.iconst X2.here hx rfl (hb hby d3_10) ?_
    show Steps p.tables e below (T2.setTop (mkF m 11 #[.val (.ref a), .val (.int p1), .val (.int (t - p1))] [(.int (1 : Int32)), (.int (t - p1)), (.int (t - p1)), (.int (1 : Int32))])) _
    refine XS.iadd X2.here hx rfl (hb hby d3_11) rfl ?_
    show Steps p.tables e below (T2.setTop (mkF m 12 #[.val (.ref a), .val (.int p1), .val (.int (t - p1))] [(.int ((t - p1) + (1 : Int32))), (.int (t - p1)), (.int (1 : Int32))])) _
    refine XS.imul X2.here hx rfl (hb hby d3_12) rfl ?_
    show Steps p.tables e below (T2.setTop (mkF m 13 #[.val (.ref a), .val (.int p1), .val (.int (t - p1))] [(.int ((t - p1) * ((t - p1) + (1 : Int32)))), (.int (1 : Int32))])) _
    refine XS.iconst X2.here hx rfl (hb hby d3_13) ?_
    show Steps p.tables e below (T2.setTop (mkF m 14 #[.val (.ref a), .val (.int p1), .val (.int (t - p1))] [(.int (2 : Int32)), (.int ((t - p1) * ((t - p1) + (1 : Int32)))), (.int (1 : Int32))])) _
    refine XS.idiv X2.here hx rfl (hb hby d3_14) rfl (by decide) ?_
    show Steps p.tables e below (T2.setTop (mkF m 15 #[.val (.ref a), .val (.int p1), .val (.int (t - p1))] [(.int (((t - p1) * ((t - p1) + (1 : Int32))) / (2 : Int32))), (.int (1 : Int32))])) _
    refine XS.iadd X2.here hx rfl (hb hby d3_15) rfl ?_
    show Steps p.tables e below (T2.setTop (mkF m 16 #[.val (.ref a), .val (.int p1), .val (.int (t - p1))] [(.int ((1 : Int32) + (((t - p1) * ((t - p1) + (1 : Int32))) / (2 : Int32))))])) _
    exact retI X2 hx Bd.returns (hb hby d3_16) hr
  · show Q3 Z a t p1 h0 n0 _ T2.heap _
    rw [e2]
    exact ⟨rfl, N0, rfl⟩
theorem pn_0 : plainName "com/example/narrow_bound/narrowbound/analysis/MergedDatesFirstPinLaw" = true := by first | (simp [plainName, overriddenIn]; done) | decide +kernel
theorem pd__I_V : parseMethodDescriptor "(I)V" = some ⟨[.int], none⟩ := by decide +kernel
theorem pd__I_I : parseMethodDescriptor "(I)I" = some ⟨[.int], some .int⟩ := by decide +kernel
theorem ef_rm0 (m : MethodId) (x0 : Int32) (x1 : Int32) : entryFrame m #[(.int x0), (.int x1)] maxLocals = mkF m 0 #[.val (.int x0), .val (.int x1), .unset, .unset, .unset, .unset, .unset, .unset, .unset] [] := by first | (simp [entryFrame, mkF, argsToLocals, Value.category, maxLocals]; done) | rfl
def Q0 (Z : State) (p1 : Int32) (p2 : Int32) (h0 : Heap) (n0 : Nat) (v : Option Value) (h : Heap) (L : List Loc) : Prop := v = some (.int (1 : Int32)) ∧ Fr n0 L
set_option maxRecDepth 65536 in
set_option maxHeartbeats 40000000 in
theorem rm0 (l : Launch) (Z : State) (a0 : Array Value) (hw : ∀ d ∈ tables_1, d.before a0 Z = true) (ws : List Jvm.Cond) (p1 : Int32) (p2 : Int32) (h0 : Heap) (n0 : Nat) (Z0 : n0 ≤ h0.size) :
    MetFree l x (head1 (Jvm.Cond.code x code maxLocals ret :: ws) room_1) (fun ar UU => ar = #[(.int p1), (.int p2)] ∧ Z.Warmed39 UU.vm ∧ UU.heap = h0) (fun _ _ _ _ _ => True) (fun _ UU oo UU' => ∃ vv LL, oo = .returned vv ∧ Q0 Z p1 p2 h0 n0 vv UU'.heap LL ∧ FrameEnd UU oo UU' LL room_1.cells room_1.slots) := by
  refine MetFree.of_bodySF (plainFor_of_name pn_0) hisR ?_
  intro p e s m args below meth c s₁ Bd hml0 hP hK
  obtain ⟨rfl, hZ, hh⟩ := hP
  have hx := Bd.exec
  have hby := Bd.bytes
  have hml : c.maxLocals = 9 := hml0
  have hown : s.vm.findClass "com/example/narrow_bound/narrowbound/analysis/MergedDatesFirstPinLaw" = some m.cls := findClass_of_methodNamed Bd.named
  have hnm := (name_of_methodNamed Bd.named Bd.method).1
  have X0 : Stand p l e room_1 s m #[(.int p1), (.int p2)] below meth c s₁ [] 0 0 := Stand.of_body Bd
  have e0 : s₁.heap = h0 := by rw [← hh, Bd.state]; rfl
  have N0 := Fr.nil n0
  have KC0 : Keep h0 h0 [] := Keep.refl h0 []
  have pre0 : ∀ tgt, Steps p.tables e below (s₁.setTop (mkF m 0 #[.val (.int p1), .val (.int p2), .unset, .unset, .unset, .unset, .unset, .unset, .unset] [])) tgt → Steps p.tables e below (s₁.setTop (entryFrame m #[(.int p1), (.int p2)] maxLocals)) tgt := fun tgt kk => castTop (ef_rm0 m (p1) (p2)) kk
  have pre1 : ∀ tgt, Steps p.tables e below (s₁.setTop (mkF m 8 #[.val (.int p1), .val (.int p2), .val (.int ((p1 &&& (2147483647 : Int32)) % (46341 : Int32))), .unset, .unset, .unset, .unset, .unset, .unset] [])) tgt → Steps p.tables e below (s₁.setTop (entryFrame m #[(.int p1), (.int p2)] maxLocals)) tgt := by
    intro tgt kk
    refine pre0 tgt ?_
    refine XS.iloadN X0.here hx rfl (hb hby at_0) rfl ?_
    show Steps p.tables e below (s₁.setTop (mkF m 1 #[.val (.int p1), .val (.int p2), .unset, .unset, .unset, .unset, .unset, .unset, .unset] [(.int p1)])) _
    refine X0.ldcInt hx hown (mvT hZ (hw _ (List.mem_of_getElem? (i := 0) rfl))) (g := (mkF m 1 #[.val (.int p1), .val (.int p2), .unset, .unset, .unset, .unset, .unset, .unset, .unset] [(.int p1)])) rfl (hb hby at_1) _ ?_
    show Steps p.tables e below (s₁.setTop (mkF m 3 #[.val (.int p1), .val (.int p2), .unset, .unset, .unset, .unset, .unset, .unset, .unset] [(.int (2147483647 : Int32)), (.int p1)])) _
    refine XS.iand X0.here hx rfl (hb hby at_3) rfl ?_
    show Steps p.tables e below (s₁.setTop (mkF m 4 #[.val (.int p1), .val (.int p2), .unset, .unset, .unset, .unset, .unset, .unset, .unset] [(.int (p1 &&& (2147483647 : Int32)))])) _
    refine X0.ldcInt hx hown (mvT hZ (hw _ (List.mem_of_getElem? (i := 1) rfl))) (g := (mkF m 4 #[.val (.int p1), .val (.int p2), .unset, .unset, .unset, .unset, .unset, .unset, .unset] [(.int (p1 &&& (2147483647 : Int32)))])) rfl (hb hby at_4) _ ?_
    show Steps p.tables e below (s₁.setTop (mkF m 6 #[.val (.int p1), .val (.int p2), .unset, .unset, .unset, .unset, .unset, .unset, .unset] [(.int (46341 : Int32)), (.int (p1 &&& (2147483647 : Int32)))])) _
    refine iremM X0 hx rfl (hb hby at_6) rfl (by decide) ?_
    show Steps p.tables e below (s₁.setTop (mkF m 7 #[.val (.int p1), .val (.int p2), .unset, .unset, .unset, .unset, .unset, .unset, .unset] [(.int ((p1 &&& (2147483647 : Int32)) % (46341 : Int32)))])) _
    refine XS.istoreN X0.here hx rfl (hb hby at_7) rfl (l' := #[.val (.int p1), .val (.int p2), .val (.int ((p1 &&& (2147483647 : Int32)) % (46341 : Int32))), .unset, .unset, .unset, .unset, .unset, .unset]) rfl ?_
    show Steps p.tables e below (s₁.setTop (mkF m 8 #[.val (.int p1), .val (.int p2), .val (.int ((p1 &&& (2147483647 : Int32)) % (46341 : Int32))), .unset, .unset, .unset, .unset, .unset, .unset] [])) _
    exact kk
  obtain ⟨T2, h2, X2, e2, E2, A2, D2, -, st2⟩ := newO X0 hx hZ hown (hw _ (List.mem_of_getElem? (i := 2) rfl)) (hw _ (List.mem_of_getElem? (i := 3) rfl)) (hw _ (List.mem_of_getElem? (i := 4) rfl)) e0 (g := (mkF m 8 #[.val (.int p1), .val (.int p2), .val (.int ((p1 &&& (2147483647 : Int32)) % (46341 : Int32))), .unset, .unset, .unset, .unset, .unset, .unset] [])) rfl (hb hby at_8) (by decide) (by decide)
  obtain ⟨b2, g2⟩ : ∃ z, z = h0.size := ⟨_, rfl⟩
  rw [← g2] at A2 D2 st2
  have gn3 : n0 ≤ b2 := Nat.le_trans Z0 (Nat.le_of_eq g2.symm)
  have sz3 : h0.size ≤ b2 := Nat.le_trans KC0.1 (Nat.le_of_eq g2.symm)
  have Zs4 : n0 ≤ h2.size := Nat.le_trans Z0 E2.1
  have KC4 : Keep h0 h2 [] := KC0.ext E2
  have E_b2 : Exa Z h2 b2 "com/example/narrow_bound/narrowbound/analysis/MergedDates" := A2
  have F_top_b2 : Fld Z h2 b2 "com/example/narrow_bound/narrowbound/analysis/MergedDates" "top" "I" (.int (0 : Int32)) := D2 (Or.inr (hw _ (List.mem_of_getElem? (i := 12) rfl))) (ty := .int) (by decide)
  have pre5 : ∀ tgt, Steps p.tables e below (T2.setTop (mkF m 13 #[.val (.int p1), .val (.int p2), .val (.int ((p1 &&& (2147483647 : Int32)) % (46341 : Int32))), .unset, .unset, .unset, .unset, .unset, .unset] [(.int ((p1 &&& (2147483647 : Int32)) % (46341 : Int32))), (.ref b2), (.ref b2)])) tgt → Steps p.tables e below (s₁.setTop (entryFrame m #[(.int p1), (.int p2)] maxLocals)) tgt := by
    intro tgt kk
    refine pre1 tgt ?_
    refine st2 _ ?_
    show Steps p.tables e below (T2.setTop (mkF m 11 #[.val (.int p1), .val (.int p2), .val (.int ((p1 &&& (2147483647 : Int32)) % (46341 : Int32))), .unset, .unset, .unset, .unset, .unset, .unset] [(.ref b2)])) _
    refine XS.dup X2.here hx rfl (hb hby at_11) rfl rfl ?_
    show Steps p.tables e below (T2.setTop (mkF m 12 #[.val (.int p1), .val (.int p2), .val (.int ((p1 &&& (2147483647 : Int32)) % (46341 : Int32))), .unset, .unset, .unset, .unset, .unset, .unset] [(.ref b2), (.ref b2)])) _
    refine XS.iloadN X2.here hx rfl (hb hby at_12) rfl ?_
    show Steps p.tables e below (T2.setTop (mkF m 13 #[.val (.int p1), .val (.int p2), .val (.int ((p1 &&& (2147483647 : Int32)) % (46341 : Int32))), .unset, .unset, .unset, .unset, .unset, .unset] [(.int ((p1 &&& (2147483647 : Int32)) % (46341 : Int32))), (.ref b2), (.ref b2)])) _
    exact kk
  obtain ⟨_, _, ⟨T6, L6, k6, n6⟩, -, X6, ⟨Lc6, hQ6, l6, y6, z6⟩, st6⟩ := X2.specialBack hx (y := (⟨"com/example/narrow_bound/narrowbound/analysis/MergedDates", "<init>", "(I)V"⟩ : MethodName)) rfl hown (mvT hZ (hw _ (List.mem_of_getElem? (i := 5) rfl))) (mvT hZ (hw _ (List.mem_of_getElem? (i := 6) rfl))) (mvT hZ (hw _ (List.mem_of_getElem? (i := 7) rfl))) (by decide) (backOf (W := 1) (rm1 l Z a0 hw [] (b2) (((p1 &&& (2147483647 : Int32)) % (46341 : Int32))) h2 n0 Zs4 E_b2 F_top_b2 gn3) hZ (hw _ (List.mem_of_getElem? (i := 7) rfl)) (hw _ (List.mem_of_getElem? (i := 4) rfl)) (by decide) (by decide)) (g := (mkF m 13 #[.val (.int p1), .val (.int p2), .val (.int ((p1 &&& (2147483647 : Int32)) % (46341 : Int32))), .unset, .unset, .unset, .unset, .unset, .unset] [(.int ((p1 &&& (2147483647 : Int32)) % (46341 : Int32))), (.ref b2), (.ref b2)])) rfl (by rw [hml]; rfl) (Steps.refl _) (a := b2) (argsL := [(.int ((p1 &&& (2147483647 : Int32)) % (46341 : Int32)))]) (rest := [(.ref b2)]) (lenOf pd__I_V rfl) rfl (by show 2 * 0 + _ ≤ _; exact Nat.le_of_eq rfl) (hb hby at_13) (fun _ _ => ⟨rfl, e2, (by decide : 1 + 0 ≤ _), (by decide : 1 + 0 ≤ _)⟩)
  dsimp only [Pt.U, Pt.locs, Pt.cells, Pt.slots] at X6 l6 y6 z6 st6 hQ6
  subst l6 y6 z6
  obtain ⟨rfl, N6q, K6, Fq6_0⟩ := hQ6
  have N6 := Fr.app N0 N6q
  have E_b2 : Exa Z T6.heap b2 "com/example/narrow_bound/narrowbound/analysis/MergedDates" := E_b2.keep K6
  have Zs7 : n0 ≤ T6.heap.size := Nat.le_trans Zs4 K6.1
  have KC7 : Keep h0 T6.heap [] := KC4.trans K6 (allS (Or.inr sz3) all0)
  have F_top_b2 := Fq6_0
  have pre8 : ∀ tgt, Steps p.tables e below (T6.setTop (mkF m 19 #[.val (.int p1), .val (.int p2), .val (.int ((p1 &&& (2147483647 : Int32)) % (46341 : Int32))), .val (.ref b2), .unset, .unset, .unset, .unset, .unset] [(.int ((p1 &&& (2147483647 : Int32)) % (46341 : Int32))), (.ref b2)])) tgt → Steps p.tables e below (s₁.setTop (entryFrame m #[(.int p1), (.int p2)] maxLocals)) tgt := by
    intro tgt kk
    refine pre5 tgt ?_
    refine st6.trans ?_
    show Steps p.tables e below (T6.setTop (mkF m 16 #[.val (.int p1), .val (.int p2), .val (.int ((p1 &&& (2147483647 : Int32)) % (46341 : Int32))), .unset, .unset, .unset, .unset, .unset, .unset] [(.ref b2)])) _
    refine XS.astoreN X6.here hx rfl (hb hby at_16) rfl rfl (l' := #[.val (.int p1), .val (.int p2), .val (.int ((p1 &&& (2147483647 : Int32)) % (46341 : Int32))), .val (.ref b2), .unset, .unset, .unset, .unset, .unset]) rfl ?_
    show Steps p.tables e below (T6.setTop (mkF m 17 #[.val (.int p1), .val (.int p2), .val (.int ((p1 &&& (2147483647 : Int32)) % (46341 : Int32))), .val (.ref b2), .unset, .unset, .unset, .unset, .unset] [])) _
    refine XS.aloadN X6.here hx rfl (hb hby at_17) rfl rfl ?_
    show Steps p.tables e below (T6.setTop (mkF m 18 #[.val (.int p1), .val (.int p2), .val (.int ((p1 &&& (2147483647 : Int32)) % (46341 : Int32))), .val (.ref b2), .unset, .unset, .unset, .unset, .unset] [(.ref b2)])) _
    refine XS.iloadN X6.here hx rfl (hb hby at_18) rfl ?_
    show Steps p.tables e below (T6.setTop (mkF m 19 #[.val (.int p1), .val (.int p2), .val (.int ((p1 &&& (2147483647 : Int32)) % (46341 : Int32))), .val (.ref b2), .unset, .unset, .unset, .unset, .unset] [(.int ((p1 &&& (2147483647 : Int32)) % (46341 : Int32))), (.ref b2)])) _
    exact kk
  obtain ⟨cq9, kq9, q9a, q9b, q9c⟩ := isOf hZ rfl E_b2
  obtain ⟨_, _, ⟨T9, L9, k9, n9⟩, -, X9, ⟨Lc9, hQ9, l9, y9, z9⟩, st9⟩ := X6.virtualBack hx (y := (⟨"com/example/narrow_bound/narrowbound/analysis/MergedDates", "first", "(I)I"⟩ : MethodName)) (z := (⟨"com/example/narrow_bound/narrowbound/analysis/MergedDates", "first", "(I)I"⟩ : MethodName)) hown (mvT hZ (hw _ (List.mem_of_getElem? (i := 13) rfl))) (mvT hZ (hw _ (List.mem_of_getElem? (i := 14) rfl))) (notFace_of_selects (args := #[]) (mvT hZ (hw _ (List.mem_of_getElem? (i := 16) rfl)))) (mvT hZ (hw _ (List.mem_of_getElem? (i := 16) rfl))) (mvT hZ (hw _ (List.mem_of_getElem? (i := 15) rfl))) (by decide) (backOf (W := 0) (rm3 l Z a0 hw [] b2 (((p1 &&& (2147483647 : Int32)) % (46341 : Int32))) (((p1 &&& (2147483647 : Int32)) % (46341 : Int32))) T6.heap n0 Zs7 F_top_b2) hZ (hw _ (List.mem_of_getElem? (i := 17) rfl)) (hw _ (List.mem_of_getElem? (i := 4) rfl)) (by decide) (by decide)) q9a q9c (g := (mkF m 19 #[.val (.int p1), .val (.int p2), .val (.int ((p1 &&& (2147483647 : Int32)) % (46341 : Int32))), .val (.ref b2), .unset, .unset, .unset, .unset, .unset] [(.int ((p1 &&& (2147483647 : Int32)) % (46341 : Int32))), (.ref b2)])) rfl (by rw [hml]; rfl) (Steps.refl _) (argsL := [(.int ((p1 &&& (2147483647 : Int32)) % (46341 : Int32)))]) (rest := []) (lenOf pd__I_I rfl) rfl (by show 2 * 0 + _ ≤ _; exact Nat.le_of_eq rfl) (hb hby at_19) (fun _ _ => ⟨rfl, rfl, (by decide : 1 + 0 ≤ _), (by decide : 1 + 0 ≤ _)⟩)
  dsimp only [Pt.U, Pt.locs, Pt.cells, Pt.slots] at X9 l9 y9 z9 st9 hQ9
  subst l9 y9 z9
  obtain ⟨rfl, N9q, hh9⟩ := hQ9
  have N9 := Fr.app N6 N9q
  have hk10 : (own_first ((p1 &&& (2147483647 : Int32)) % (46341 : Int32)) ((p1 &&& (2147483647 : Int32)) % (46341 : Int32))) = (1 : Int32) := own_a p1
  have pre11 : ∀ tgt, Steps p.tables e below (T9.setTop (mkF m 29 #[.val (.int p1), .val (.int p2), .val (.int ((p1 &&& (2147483647 : Int32)) % (46341 : Int32))), .val (.ref b2), .unset, .unset, .unset, .unset, .unset] [(.int ((p1 &&& (2147483647 : Int32)) % (46341 : Int32)))])) tgt → Steps p.tables e below (s₁.setTop (entryFrame m #[(.int p1), (.int p2)] maxLocals)) tgt := by
    intro tgt kk
    refine pre8 tgt ?_
    refine st9.trans ?_
    show Steps p.tables e below (T9.setTop (mkF m 22 #[.val (.int p1), .val (.int p2), .val (.int ((p1 &&& (2147483647 : Int32)) % (46341 : Int32))), .val (.ref b2), .unset, .unset, .unset, .unset, .unset] [(.int (own_first ((p1 &&& (2147483647 : Int32)) % (46341 : Int32)) ((p1 &&& (2147483647 : Int32)) % (46341 : Int32))))])) _
    refine XS.iconst X9.here hx rfl (hb hby at_22) ?_
    show Steps p.tables e below (T9.setTop (mkF m 23 #[.val (.int p1), .val (.int p2), .val (.int ((p1 &&& (2147483647 : Int32)) % (46341 : Int32))), .val (.ref b2), .unset, .unset, .unset, .unset, .unset] [(.int (1 : Int32)), (.int (own_first ((p1 &&& (2147483647 : Int32)) % (46341 : Int32)) ((p1 &&& (2147483647 : Int32)) % (46341 : Int32))))])) _
    refine XS.icmpYes X9.here hx rfl (pc0 := 23) (pc' := 28) rfl (hb hby at_23) rfl (XT.ii_eq_t hk10) (by decide) (by decide) ?_
    show Steps p.tables e below (T9.setTop (mkF m 28 #[.val (.int p1), .val (.int p2), .val (.int ((p1 &&& (2147483647 : Int32)) % (46341 : Int32))), .val (.ref b2), .unset, .unset, .unset, .unset, .unset] [])) _
    refine XS.iloadN X9.here hx rfl (hb hby at_28) rfl ?_
    show Steps p.tables e below (T9.setTop (mkF m 29 #[.val (.int p1), .val (.int p2), .val (.int ((p1 &&& (2147483647 : Int32)) % (46341 : Int32))), .val (.ref b2), .unset, .unset, .unset, .unset, .unset] [(.int ((p1 &&& (2147483647 : Int32)) % (46341 : Int32)))])) _
    exact kk
  by_cases hc29_12 : ((p1 &&& (2147483647 : Int32)) % (46341 : Int32)) = (0 : Int32)
  · skip
    obtain ⟨fs, hr, hrun, hended, hW, hsame⟩ := X9.leave (v := some (.int (1 : Int32))) (fun h => by rw [Bd.returns] at h; cases h)
    refine ⟨_, _, pre11 _ ?_, hrun, hended, _, _, rfl, ?_, ⟨_, rfl⟩, hW, hsame.mono (by decide) (by decide)⟩
    · skip
      refine XS.ifNo X9.here hx rfl (hb hby at_29) rfl (XT.i0_ne_f hc29_12) ?_
      show Steps p.tables e below (T9.setTop (mkF m 32 #[.val (.int p1), .val (.int p2), .val (.int ((p1 &&& (2147483647 : Int32)) % (46341 : Int32))), .val (.ref b2), .unset, .unset, .unset, .unset, .unset] [])) _
      refine XS.iconst X9.here hx rfl (hb hby at_32) ?_
      show Steps p.tables e below (T9.setTop (mkF m 33 #[.val (.int p1), .val (.int p2), .val (.int ((p1 &&& (2147483647 : Int32)) % (46341 : Int32))), .val (.ref b2), .unset, .unset, .unset, .unset, .unset] [(.int (1 : Int32))])) _
      exact retN X9 hx (t := .boolean) Bd.returns (by simp) (hb hby at_33) hr
    · show Q0 Z p1 p2 h0 n0 _ T9.heap _
      rw [hh9]
      exact ⟨rfl, N9⟩
  · skip
    have pre13 : ∀ tgt, Steps p.tables e below (T9.setTop (mkF m 47 #[.val (.int p1), .val (.int p2), .val (.int ((p1 &&& (2147483647 : Int32)) % (46341 : Int32))), .val (.ref b2), .val (.int ((1 : Int32) + ((p2 &&& (2147483647 : Int32)) % ((p1 &&& (2147483647 : Int32)) % (46341 : Int32))))), .unset, .unset, .unset, .unset] [(.int ((1 : Int32) + ((p2 &&& (2147483647 : Int32)) % ((p1 &&& (2147483647 : Int32)) % (46341 : Int32))))), (.ref b2)])) tgt → Steps p.tables e below (s₁.setTop (entryFrame m #[(.int p1), (.int p2)] maxLocals)) tgt := by
      intro tgt kk
      refine pre11 tgt ?_
      refine XS.ifYes X9.here hx rfl (pc0 := 29) (pc' := 34) rfl (hb hby at_29) rfl (XT.i0_ne_t hc29_12) (by decide) (by decide) ?_
      show Steps p.tables e below (T9.setTop (mkF m 34 #[.val (.int p1), .val (.int p2), .val (.int ((p1 &&& (2147483647 : Int32)) % (46341 : Int32))), .val (.ref b2), .unset, .unset, .unset, .unset, .unset] [])) _
      refine XS.iconst X9.here hx rfl (hb hby at_34) ?_
      show Steps p.tables e below (T9.setTop (mkF m 35 #[.val (.int p1), .val (.int p2), .val (.int ((p1 &&& (2147483647 : Int32)) % (46341 : Int32))), .val (.ref b2), .unset, .unset, .unset, .unset, .unset] [(.int (1 : Int32))])) _
      refine XS.iloadN X9.here hx rfl (hb hby at_35) rfl ?_
      show Steps p.tables e below (T9.setTop (mkF m 36 #[.val (.int p1), .val (.int p2), .val (.int ((p1 &&& (2147483647 : Int32)) % (46341 : Int32))), .val (.ref b2), .unset, .unset, .unset, .unset, .unset] [(.int p2), (.int (1 : Int32))])) _
      refine X9.ldcInt hx hown (mvT hZ (hw _ (List.mem_of_getElem? (i := 0) rfl))) (g := (mkF m 36 #[.val (.int p1), .val (.int p2), .val (.int ((p1 &&& (2147483647 : Int32)) % (46341 : Int32))), .val (.ref b2), .unset, .unset, .unset, .unset, .unset] [(.int p2), (.int (1 : Int32))])) rfl (hb hby at_36) _ ?_
      show Steps p.tables e below (T9.setTop (mkF m 38 #[.val (.int p1), .val (.int p2), .val (.int ((p1 &&& (2147483647 : Int32)) % (46341 : Int32))), .val (.ref b2), .unset, .unset, .unset, .unset, .unset] [(.int (2147483647 : Int32)), (.int p2), (.int (1 : Int32))])) _
      refine XS.iand X9.here hx rfl (hb hby at_38) rfl ?_
      show Steps p.tables e below (T9.setTop (mkF m 39 #[.val (.int p1), .val (.int p2), .val (.int ((p1 &&& (2147483647 : Int32)) % (46341 : Int32))), .val (.ref b2), .unset, .unset, .unset, .unset, .unset] [(.int (p2 &&& (2147483647 : Int32))), (.int (1 : Int32))])) _
      refine XS.iloadN X9.here hx rfl (hb hby at_39) rfl ?_
      show Steps p.tables e below (T9.setTop (mkF m 40 #[.val (.int p1), .val (.int p2), .val (.int ((p1 &&& (2147483647 : Int32)) % (46341 : Int32))), .val (.ref b2), .unset, .unset, .unset, .unset, .unset] [(.int ((p1 &&& (2147483647 : Int32)) % (46341 : Int32))), (.int (p2 &&& (2147483647 : Int32))), (.int (1 : Int32))])) _
      refine iremM X9 hx rfl (hb hby at_40) rfl (show _ ≠ _ from hc29_12) ?_
      show Steps p.tables e below (T9.setTop (mkF m 41 #[.val (.int p1), .val (.int p2), .val (.int ((p1 &&& (2147483647 : Int32)) % (46341 : Int32))), .val (.ref b2), .unset, .unset, .unset, .unset, .unset] [(.int ((p2 &&& (2147483647 : Int32)) % ((p1 &&& (2147483647 : Int32)) % (46341 : Int32)))), (.int (1 : Int32))])) _
      refine XS.iadd X9.here hx rfl (hb hby at_41) rfl ?_
      show Steps p.tables e below (T9.setTop (mkF m 42 #[.val (.int p1), .val (.int p2), .val (.int ((p1 &&& (2147483647 : Int32)) % (46341 : Int32))), .val (.ref b2), .unset, .unset, .unset, .unset, .unset] [(.int ((1 : Int32) + ((p2 &&& (2147483647 : Int32)) % ((p1 &&& (2147483647 : Int32)) % (46341 : Int32)))))])) _
      refine XS.istore X9.here hx rfl (hb hby at_42) rfl (l' := #[.val (.int p1), .val (.int p2), .val (.int ((p1 &&& (2147483647 : Int32)) % (46341 : Int32))), .val (.ref b2), .val (.int ((1 : Int32) + ((p2 &&& (2147483647 : Int32)) % ((p1 &&& (2147483647 : Int32)) % (46341 : Int32))))), .unset, .unset, .unset, .unset]) rfl ?_
      show Steps p.tables e below (T9.setTop (mkF m 44 #[.val (.int p1), .val (.int p2), .val (.int ((p1 &&& (2147483647 : Int32)) % (46341 : Int32))), .val (.ref b2), .val (.int ((1 : Int32) + ((p2 &&& (2147483647 : Int32)) % ((p1 &&& (2147483647 : Int32)) % (46341 : Int32))))), .unset, .unset, .unset, .unset] [])) _
      refine XS.aloadN X9.here hx rfl (hb hby at_44) rfl rfl ?_
      show Steps p.tables e below (T9.setTop (mkF m 45 #[.val (.int p1), .val (.int p2), .val (.int ((p1 &&& (2147483647 : Int32)) % (46341 : Int32))), .val (.ref b2), .val (.int ((1 : Int32) + ((p2 &&& (2147483647 : Int32)) % ((p1 &&& (2147483647 : Int32)) % (46341 : Int32))))), .unset, .unset, .unset, .unset] [(.ref b2)])) _
      refine XS.iload X9.here hx rfl (hb hby at_45) rfl ?_
      show Steps p.tables e below (T9.setTop (mkF m 47 #[.val (.int p1), .val (.int p2), .val (.int ((p1 &&& (2147483647 : Int32)) % (46341 : Int32))), .val (.ref b2), .val (.int ((1 : Int32) + ((p2 &&& (2147483647 : Int32)) % ((p1 &&& (2147483647 : Int32)) % (46341 : Int32))))), .unset, .unset, .unset, .unset] [(.int ((1 : Int32) + ((p2 &&& (2147483647 : Int32)) % ((p1 &&& (2147483647 : Int32)) % (46341 : Int32))))), (.ref b2)])) _
      exact kk
    obtain ⟨cq14, kq14, q14a, q14b, q14c⟩ := isOf hZ hh9 E_b2
    obtain ⟨_, _, ⟨T14, L14, k14, n14⟩, -, X14, ⟨Lc14, hQ14, l14, y14, z14⟩, st14⟩ := X9.virtualBack hx (y := (⟨"com/example/narrow_bound/narrowbound/analysis/MergedDates", "first", "(I)I"⟩ : MethodName)) (z := (⟨"com/example/narrow_bound/narrowbound/analysis/MergedDates", "first", "(I)I"⟩ : MethodName)) hown (mvT hZ (hw _ (List.mem_of_getElem? (i := 13) rfl))) (mvT hZ (hw _ (List.mem_of_getElem? (i := 14) rfl))) (notFace_of_selects (args := #[]) (mvT hZ (hw _ (List.mem_of_getElem? (i := 16) rfl)))) (mvT hZ (hw _ (List.mem_of_getElem? (i := 16) rfl))) (mvT hZ (hw _ (List.mem_of_getElem? (i := 15) rfl))) (by decide) (backOf (W := 0) (rm3 l Z a0 hw [] b2 (((p1 &&& (2147483647 : Int32)) % (46341 : Int32))) (((1 : Int32) + ((p2 &&& (2147483647 : Int32)) % ((p1 &&& (2147483647 : Int32)) % (46341 : Int32))))) T6.heap n0 Zs7 F_top_b2) hZ (hw _ (List.mem_of_getElem? (i := 17) rfl)) (hw _ (List.mem_of_getElem? (i := 4) rfl)) (by decide) (by decide)) q14a q14c (g := (mkF m 47 #[.val (.int p1), .val (.int p2), .val (.int ((p1 &&& (2147483647 : Int32)) % (46341 : Int32))), .val (.ref b2), .val (.int ((1 : Int32) + ((p2 &&& (2147483647 : Int32)) % ((p1 &&& (2147483647 : Int32)) % (46341 : Int32))))), .unset, .unset, .unset, .unset] [(.int ((1 : Int32) + ((p2 &&& (2147483647 : Int32)) % ((p1 &&& (2147483647 : Int32)) % (46341 : Int32))))), (.ref b2)])) rfl (by rw [hml]; rfl) (Steps.refl _) (argsL := [(.int ((1 : Int32) + ((p2 &&& (2147483647 : Int32)) % ((p1 &&& (2147483647 : Int32)) % (46341 : Int32)))))]) (rest := []) (lenOf pd__I_I rfl) rfl (by show 2 * 0 + _ ≤ _; exact Nat.le_of_eq rfl) (hb hby at_47) (fun _ _ => ⟨rfl, hh9, (by decide : 1 + 0 ≤ _), (by decide : 1 + 0 ≤ _)⟩)
    dsimp only [Pt.U, Pt.locs, Pt.cells, Pt.slots] at X14 l14 y14 z14 st14 hQ14
    subst l14 y14 z14
    obtain ⟨rfl, N14q, hh14⟩ := hQ14
    have N14 := Fr.app N9 N14q
    have pre15 : ∀ tgt, Steps p.tables e below (T14.setTop (mkF m 58 #[.val (.int p1), .val (.int p2), .val (.int ((p1 &&& (2147483647 : Int32)) % (46341 : Int32))), .val (.ref b2), .val (.int ((1 : Int32) + ((p2 &&& (2147483647 : Int32)) % ((p1 &&& (2147483647 : Int32)) % (46341 : Int32))))), .val (.long (own_first ((p1 &&& (2147483647 : Int32)) % (46341 : Int32)) ((1 : Int32) + ((p2 &&& (2147483647 : Int32)) % ((p1 &&& (2147483647 : Int32)) % (46341 : Int32))))).toInt64), .second, .unset, .unset] [(.int (((1 : Int32) + ((p2 &&& (2147483647 : Int32)) % ((p1 &&& (2147483647 : Int32)) % (46341 : Int32)))) - (1 : Int32))), (.ref b2)])) tgt → Steps p.tables e below (s₁.setTop (entryFrame m #[(.int p1), (.int p2)] maxLocals)) tgt := by
      intro tgt kk
      refine pre13 tgt ?_
      refine st14.trans ?_
      show Steps p.tables e below (T14.setTop (mkF m 50 #[.val (.int p1), .val (.int p2), .val (.int ((p1 &&& (2147483647 : Int32)) % (46341 : Int32))), .val (.ref b2), .val (.int ((1 : Int32) + ((p2 &&& (2147483647 : Int32)) % ((p1 &&& (2147483647 : Int32)) % (46341 : Int32))))), .unset, .unset, .unset, .unset] [(.int (own_first ((p1 &&& (2147483647 : Int32)) % (46341 : Int32)) ((1 : Int32) + ((p2 &&& (2147483647 : Int32)) % ((p1 &&& (2147483647 : Int32)) % (46341 : Int32))))))])) _
      refine XS.i2l X14.here hx rfl (hb hby at_50) rfl ?_
      show Steps p.tables e below (T14.setTop (mkF m 51 #[.val (.int p1), .val (.int p2), .val (.int ((p1 &&& (2147483647 : Int32)) % (46341 : Int32))), .val (.ref b2), .val (.int ((1 : Int32) + ((p2 &&& (2147483647 : Int32)) % ((p1 &&& (2147483647 : Int32)) % (46341 : Int32))))), .unset, .unset, .unset, .unset] [(.long (own_first ((p1 &&& (2147483647 : Int32)) % (46341 : Int32)) ((1 : Int32) + ((p2 &&& (2147483647 : Int32)) % ((p1 &&& (2147483647 : Int32)) % (46341 : Int32))))).toInt64)])) _
      refine XS.lstore X14.here hx rfl (hb hby at_51) rfl (l' := #[.val (.int p1), .val (.int p2), .val (.int ((p1 &&& (2147483647 : Int32)) % (46341 : Int32))), .val (.ref b2), .val (.int ((1 : Int32) + ((p2 &&& (2147483647 : Int32)) % ((p1 &&& (2147483647 : Int32)) % (46341 : Int32))))), .val (.long (own_first ((p1 &&& (2147483647 : Int32)) % (46341 : Int32)) ((1 : Int32) + ((p2 &&& (2147483647 : Int32)) % ((p1 &&& (2147483647 : Int32)) % (46341 : Int32))))).toInt64), .second, .unset, .unset]) rfl ?_
      show Steps p.tables e below (T14.setTop (mkF m 53 #[.val (.int p1), .val (.int p2), .val (.int ((p1 &&& (2147483647 : Int32)) % (46341 : Int32))), .val (.ref b2), .val (.int ((1 : Int32) + ((p2 &&& (2147483647 : Int32)) % ((p1 &&& (2147483647 : Int32)) % (46341 : Int32))))), .val (.long (own_first ((p1 &&& (2147483647 : Int32)) % (46341 : Int32)) ((1 : Int32) + ((p2 &&& (2147483647 : Int32)) % ((p1 &&& (2147483647 : Int32)) % (46341 : Int32))))).toInt64), .second, .unset, .unset] [])) _
      refine XS.aloadN X14.here hx rfl (hb hby at_53) rfl rfl ?_
      show Steps p.tables e below (T14.setTop (mkF m 54 #[.val (.int p1), .val (.int p2), .val (.int ((p1 &&& (2147483647 : Int32)) % (46341 : Int32))), .val (.ref b2), .val (.int ((1 : Int32) + ((p2 &&& (2147483647 : Int32)) % ((p1 &&& (2147483647 : Int32)) % (46341 : Int32))))), .val (.long (own_first ((p1 &&& (2147483647 : Int32)) % (46341 : Int32)) ((1 : Int32) + ((p2 &&& (2147483647 : Int32)) % ((p1 &&& (2147483647 : Int32)) % (46341 : Int32))))).toInt64), .second, .unset, .unset] [(.ref b2)])) _
      refine XS.iload X14.here hx rfl (hb hby at_54) rfl ?_
      show Steps p.tables e below (T14.setTop (mkF m 56 #[.val (.int p1), .val (.int p2), .val (.int ((p1 &&& (2147483647 : Int32)) % (46341 : Int32))), .val (.ref b2), .val (.int ((1 : Int32) + ((p2 &&& (2147483647 : Int32)) % ((p1 &&& (2147483647 : Int32)) % (46341 : Int32))))), .val (.long (own_first ((p1 &&& (2147483647 : Int32)) % (46341 : Int32)) ((1 : Int32) + ((p2 &&& (2147483647 : Int32)) % ((p1 &&& (2147483647 : Int32)) % (46341 : Int32))))).toInt64), .second, .unset, .unset] [(.int ((1 : Int32) + ((p2 &&& (2147483647 : Int32)) % ((p1 &&& (2147483647 : Int32)) % (46341 : Int32))))), (.ref b2)])) _
      refine XS.iconst X14.here hx rfl (hb hby at_56) ?_
      show Steps p.tables e below (T14.setTop (mkF m 57 #[.val (.int p1), .val (.int p2), .val (.int ((p1 &&& (2147483647 : Int32)) % (46341 : Int32))), .val (.ref b2), .val (.int ((1 : Int32) + ((p2 &&& (2147483647 : Int32)) % ((p1 &&& (2147483647 : Int32)) % (46341 : Int32))))), .val (.long (own_first ((p1 &&& (2147483647 : Int32)) % (46341 : Int32)) ((1 : Int32) + ((p2 &&& (2147483647 : Int32)) % ((p1 &&& (2147483647 : Int32)) % (46341 : Int32))))).toInt64), .second, .unset, .unset] [(.int (1 : Int32)), (.int ((1 : Int32) + ((p2 &&& (2147483647 : Int32)) % ((p1 &&& (2147483647 : Int32)) % (46341 : Int32))))), (.ref b2)])) _
      refine XS.isub X14.here hx rfl (hb hby at_57) rfl ?_
      show Steps p.tables e below (T14.setTop (mkF m 58 #[.val (.int p1), .val (.int p2), .val (.int ((p1 &&& (2147483647 : Int32)) % (46341 : Int32))), .val (.ref b2), .val (.int ((1 : Int32) + ((p2 &&& (2147483647 : Int32)) % ((p1 &&& (2147483647 : Int32)) % (46341 : Int32))))), .val (.long (own_first ((p1 &&& (2147483647 : Int32)) % (46341 : Int32)) ((1 : Int32) + ((p2 &&& (2147483647 : Int32)) % ((p1 &&& (2147483647 : Int32)) % (46341 : Int32))))).toInt64), .second, .unset, .unset] [(.int (((1 : Int32) + ((p2 &&& (2147483647 : Int32)) % ((p1 &&& (2147483647 : Int32)) % (46341 : Int32)))) - (1 : Int32))), (.ref b2)])) _
      exact kk
    obtain ⟨cq16, kq16, q16a, q16b, q16c⟩ := isOf hZ hh14 E_b2
    obtain ⟨_, _, ⟨T16, L16, k16, n16⟩, -, X16, ⟨Lc16, hQ16, l16, y16, z16⟩, st16⟩ := X14.virtualBack hx (y := (⟨"com/example/narrow_bound/narrowbound/analysis/MergedDates", "first", "(I)I"⟩ : MethodName)) (z := (⟨"com/example/narrow_bound/narrowbound/analysis/MergedDates", "first", "(I)I"⟩ : MethodName)) hown (mvT hZ (hw _ (List.mem_of_getElem? (i := 13) rfl))) (mvT hZ (hw _ (List.mem_of_getElem? (i := 14) rfl))) (notFace_of_selects (args := #[]) (mvT hZ (hw _ (List.mem_of_getElem? (i := 16) rfl)))) (mvT hZ (hw _ (List.mem_of_getElem? (i := 16) rfl))) (mvT hZ (hw _ (List.mem_of_getElem? (i := 15) rfl))) (by decide) (backOf (W := 0) (rm3 l Z a0 hw [] b2 (((p1 &&& (2147483647 : Int32)) % (46341 : Int32))) ((((1 : Int32) + ((p2 &&& (2147483647 : Int32)) % ((p1 &&& (2147483647 : Int32)) % (46341 : Int32)))) - (1 : Int32))) T6.heap n0 Zs7 F_top_b2) hZ (hw _ (List.mem_of_getElem? (i := 17) rfl)) (hw _ (List.mem_of_getElem? (i := 4) rfl)) (by decide) (by decide)) q16a q16c (g := (mkF m 58 #[.val (.int p1), .val (.int p2), .val (.int ((p1 &&& (2147483647 : Int32)) % (46341 : Int32))), .val (.ref b2), .val (.int ((1 : Int32) + ((p2 &&& (2147483647 : Int32)) % ((p1 &&& (2147483647 : Int32)) % (46341 : Int32))))), .val (.long (own_first ((p1 &&& (2147483647 : Int32)) % (46341 : Int32)) ((1 : Int32) + ((p2 &&& (2147483647 : Int32)) % ((p1 &&& (2147483647 : Int32)) % (46341 : Int32))))).toInt64), .second, .unset, .unset] [(.int (((1 : Int32) + ((p2 &&& (2147483647 : Int32)) % ((p1 &&& (2147483647 : Int32)) % (46341 : Int32)))) - (1 : Int32))), (.ref b2)])) rfl (by rw [hml]; rfl) (Steps.refl _) (argsL := [(.int (((1 : Int32) + ((p2 &&& (2147483647 : Int32)) % ((p1 &&& (2147483647 : Int32)) % (46341 : Int32)))) - (1 : Int32)))]) (rest := []) (lenOf pd__I_I rfl) rfl (by show 2 * 0 + _ ≤ _; exact Nat.le_of_eq rfl) (hb hby at_58) (fun _ _ => ⟨rfl, hh14, (by decide : 1 + 0 ≤ _), (by decide : 1 + 0 ≤ _)⟩)
    dsimp only [Pt.U, Pt.locs, Pt.cells, Pt.slots] at X16 l16 y16 z16 st16 hQ16
    subst l16 y16 z16
    obtain ⟨rfl, N16q, hh16⟩ := hQ16
    have N16 := Fr.app N14 N16q
    have hk17 : (own_first ((p1 &&& (2147483647 : Int32)) % (46341 : Int32)) (((1 : Int32) + ((p2 &&& (2147483647 : Int32)) % ((p1 &&& (2147483647 : Int32)) % (46341 : Int32)))) - (1 : Int32))).toInt64 = ((own_first ((p1 &&& (2147483647 : Int32)) % (46341 : Int32)) ((1 : Int32) + ((p2 &&& (2147483647 : Int32)) % ((p1 &&& (2147483647 : Int32)) % (46341 : Int32))))).toInt64 + ((((p1 &&& (2147483647 : Int32)) % (46341 : Int32)) - ((1 : Int32) + ((p2 &&& (2147483647 : Int32)) % ((p1 &&& (2147483647 : Int32)) % (46341 : Int32))))) + (1 : Int32)).toInt64) := own_b p1 p2 hc29_12
    obtain ⟨fs, hr, hrun, hended, hW, hsame⟩ := X16.leave (v := some (.int (1 : Int32))) (fun h => by rw [Bd.returns] at h; cases h)
    refine ⟨_, _, pre15 _ ?_, hrun, hended, _, _, rfl, ?_, ⟨_, rfl⟩, hW, hsame.mono (by decide) (by decide)⟩
    · skip
      refine st16.trans ?_
      show Steps p.tables e below (T16.setTop (mkF m 61 #[.val (.int p1), .val (.int p2), .val (.int ((p1 &&& (2147483647 : Int32)) % (46341 : Int32))), .val (.ref b2), .val (.int ((1 : Int32) + ((p2 &&& (2147483647 : Int32)) % ((p1 &&& (2147483647 : Int32)) % (46341 : Int32))))), .val (.long (own_first ((p1 &&& (2147483647 : Int32)) % (46341 : Int32)) ((1 : Int32) + ((p2 &&& (2147483647 : Int32)) % ((p1 &&& (2147483647 : Int32)) % (46341 : Int32))))).toInt64), .second, .unset, .unset] [(.int (own_first ((p1 &&& (2147483647 : Int32)) % (46341 : Int32)) (((1 : Int32) + ((p2 &&& (2147483647 : Int32)) % ((p1 &&& (2147483647 : Int32)) % (46341 : Int32)))) - (1 : Int32))))])) _
      refine XS.i2l X16.here hx rfl (hb hby at_61) rfl ?_
      show Steps p.tables e below (T16.setTop (mkF m 62 #[.val (.int p1), .val (.int p2), .val (.int ((p1 &&& (2147483647 : Int32)) % (46341 : Int32))), .val (.ref b2), .val (.int ((1 : Int32) + ((p2 &&& (2147483647 : Int32)) % ((p1 &&& (2147483647 : Int32)) % (46341 : Int32))))), .val (.long (own_first ((p1 &&& (2147483647 : Int32)) % (46341 : Int32)) ((1 : Int32) + ((p2 &&& (2147483647 : Int32)) % ((p1 &&& (2147483647 : Int32)) % (46341 : Int32))))).toInt64), .second, .unset, .unset] [(.long (own_first ((p1 &&& (2147483647 : Int32)) % (46341 : Int32)) (((1 : Int32) + ((p2 &&& (2147483647 : Int32)) % ((p1 &&& (2147483647 : Int32)) % (46341 : Int32)))) - (1 : Int32))).toInt64)])) _
      refine XS.lstore X16.here hx rfl (hb hby at_62) rfl (l' := #[.val (.int p1), .val (.int p2), .val (.int ((p1 &&& (2147483647 : Int32)) % (46341 : Int32))), .val (.ref b2), .val (.int ((1 : Int32) + ((p2 &&& (2147483647 : Int32)) % ((p1 &&& (2147483647 : Int32)) % (46341 : Int32))))), .val (.long (own_first ((p1 &&& (2147483647 : Int32)) % (46341 : Int32)) ((1 : Int32) + ((p2 &&& (2147483647 : Int32)) % ((p1 &&& (2147483647 : Int32)) % (46341 : Int32))))).toInt64), .second, .val (.long (own_first ((p1 &&& (2147483647 : Int32)) % (46341 : Int32)) (((1 : Int32) + ((p2 &&& (2147483647 : Int32)) % ((p1 &&& (2147483647 : Int32)) % (46341 : Int32)))) - (1 : Int32))).toInt64), .second]) rfl ?_
      show Steps p.tables e below (T16.setTop (mkF m 64 #[.val (.int p1), .val (.int p2), .val (.int ((p1 &&& (2147483647 : Int32)) % (46341 : Int32))), .val (.ref b2), .val (.int ((1 : Int32) + ((p2 &&& (2147483647 : Int32)) % ((p1 &&& (2147483647 : Int32)) % (46341 : Int32))))), .val (.long (own_first ((p1 &&& (2147483647 : Int32)) % (46341 : Int32)) ((1 : Int32) + ((p2 &&& (2147483647 : Int32)) % ((p1 &&& (2147483647 : Int32)) % (46341 : Int32))))).toInt64), .second, .val (.long (own_first ((p1 &&& (2147483647 : Int32)) % (46341 : Int32)) (((1 : Int32) + ((p2 &&& (2147483647 : Int32)) % ((p1 &&& (2147483647 : Int32)) % (46341 : Int32)))) - (1 : Int32))).toInt64), .second] [])) _
      refine XS.lload X16.here hx rfl (hb hby at_64) rfl ?_
      show Steps p.tables e below (T16.setTop (mkF m 66 #[.val (.int p1), .val (.int p2), .val (.int ((p1 &&& (2147483647 : Int32)) % (46341 : Int32))), .val (.ref b2), .val (.int ((1 : Int32) + ((p2 &&& (2147483647 : Int32)) % ((p1 &&& (2147483647 : Int32)) % (46341 : Int32))))), .val (.long (own_first ((p1 &&& (2147483647 : Int32)) % (46341 : Int32)) ((1 : Int32) + ((p2 &&& (2147483647 : Int32)) % ((p1 &&& (2147483647 : Int32)) % (46341 : Int32))))).toInt64), .second, .val (.long (own_first ((p1 &&& (2147483647 : Int32)) % (46341 : Int32)) (((1 : Int32) + ((p2 &&& (2147483647 : Int32)) % ((p1 &&& (2147483647 : Int32)) % (46341 : Int32)))) - (1 : Int32))).toInt64), .second] [(.long (own_first ((p1 &&& (2147483647 : Int32)) % (46341 : Int32)) (((1 : Int32) + ((p2 &&& (2147483647 : Int32)) % ((p1 &&& (2147483647 : Int32)) % (46341 : Int32)))) - (1 : Int32))).toInt64)])) _
      refine XS.lload X16.here hx rfl (hb hby at_66) rfl ?_
      show Steps p.tables e below (T16.setTop (mkF m 68 #[.val (.int p1), .val (.int p2), .val (.int ((p1 &&& (2147483647 : Int32)) % (46341 : Int32))), .val (.ref b2), .val (.int ((1 : Int32) + ((p2 &&& (2147483647 : Int32)) % ((p1 &&& (2147483647 : Int32)) % (46341 : Int32))))), .val (.long (own_first ((p1 &&& (2147483647 : Int32)) % (46341 : Int32)) ((1 : Int32) + ((p2 &&& (2147483647 : Int32)) % ((p1 &&& (2147483647 : Int32)) % (46341 : Int32))))).toInt64), .second, .val (.long (own_first ((p1 &&& (2147483647 : Int32)) % (46341 : Int32)) (((1 : Int32) + ((p2 &&& (2147483647 : Int32)) % ((p1 &&& (2147483647 : Int32)) % (46341 : Int32)))) - (1 : Int32))).toInt64), .second] [(.long (own_first ((p1 &&& (2147483647 : Int32)) % (46341 : Int32)) ((1 : Int32) + ((p2 &&& (2147483647 : Int32)) % ((p1 &&& (2147483647 : Int32)) % (46341 : Int32))))).toInt64), (.long (own_first ((p1 &&& (2147483647 : Int32)) % (46341 : Int32)) (((1 : Int32) + ((p2 &&& (2147483647 : Int32)) % ((p1 &&& (2147483647 : Int32)) % (46341 : Int32)))) - (1 : Int32))).toInt64)])) _
      refine XS.iloadN X16.here hx rfl (hb hby at_68) rfl ?_
      show Steps p.tables e below (T16.setTop (mkF m 69 #[.val (.int p1), .val (.int p2), .val (.int ((p1 &&& (2147483647 : Int32)) % (46341 : Int32))), .val (.ref b2), .val (.int ((1 : Int32) + ((p2 &&& (2147483647 : Int32)) % ((p1 &&& (2147483647 : Int32)) % (46341 : Int32))))), .val (.long (own_first ((p1 &&& (2147483647 : Int32)) % (46341 : Int32)) ((1 : Int32) + ((p2 &&& (2147483647 : Int32)) % ((p1 &&& (2147483647 : Int32)) % (46341 : Int32))))).toInt64), .second, .val (.long (own_first ((p1 &&& (2147483647 : Int32)) % (46341 : Int32)) (((1 : Int32) + ((p2 &&& (2147483647 : Int32)) % ((p1 &&& (2147483647 : Int32)) % (46341 : Int32)))) - (1 : Int32))).toInt64), .second] [(.int ((p1 &&& (2147483647 : Int32)) % (46341 : Int32))), (.long (own_first ((p1 &&& (2147483647 : Int32)) % (46341 : Int32)) ((1 : Int32) + ((p2 &&& (2147483647 : Int32)) % ((p1 &&& (2147483647 : Int32)) % (46341 : Int32))))).toInt64), (.long (own_first ((p1 &&& (2147483647 : Int32)) % (46341 : Int32)) (((1 : Int32) + ((p2 &&& (2147483647 : Int32)) % ((p1 &&& (2147483647 : Int32)) % (46341 : Int32)))) - (1 : Int32))).toInt64)])) _
      refine XS.iload X16.here hx rfl (hb hby at_69) rfl ?_
      show Steps p.tables e below (T16.setTop (mkF m 71 #[.val (.int p1), .val (.int p2), .val (.int ((p1 &&& (2147483647 : Int32)) % (46341 : Int32))), .val (.ref b2), .val (.int ((1 : Int32) + ((p2 &&& (2147483647 : Int32)) % ((p1 &&& (2147483647 : Int32)) % (46341 : Int32))))), .val (.long (own_first ((p1 &&& (2147483647 : Int32)) % (46341 : Int32)) ((1 : Int32) + ((p2 &&& (2147483647 : Int32)) % ((p1 &&& (2147483647 : Int32)) % (46341 : Int32))))).toInt64), .second, .val (.long (own_first ((p1 &&& (2147483647 : Int32)) % (46341 : Int32)) (((1 : Int32) + ((p2 &&& (2147483647 : Int32)) % ((p1 &&& (2147483647 : Int32)) % (46341 : Int32)))) - (1 : Int32))).toInt64), .second] [(.int ((1 : Int32) + ((p2 &&& (2147483647 : Int32)) % ((p1 &&& (2147483647 : Int32)) % (46341 : Int32))))), (.int ((p1 &&& (2147483647 : Int32)) % (46341 : Int32))), (.long (own_first ((p1 &&& (2147483647 : Int32)) % (46341 : Int32)) ((1 : Int32) + ((p2 &&& (2147483647 : Int32)) % ((p1 &&& (2147483647 : Int32)) % (46341 : Int32))))).toInt64), (.long (own_first ((p1 &&& (2147483647 : Int32)) % (46341 : Int32)) (((1 : Int32) + ((p2 &&& (2147483647 : Int32)) % ((p1 &&& (2147483647 : Int32)) % (46341 : Int32)))) - (1 : Int32))).toInt64)])) _
      refine XS.isub X16.here hx rfl (hb hby at_71) rfl ?_
      show Steps p.tables e below (T16.setTop (mkF m 72 #[.val (.int p1), .val (.int p2), .val (.int ((p1 &&& (2147483647 : Int32)) % (46341 : Int32))), .val (.ref b2), .val (.int ((1 : Int32) + ((p2 &&& (2147483647 : Int32)) % ((p1 &&& (2147483647 : Int32)) % (46341 : Int32))))), .val (.long (own_first ((p1 &&& (2147483647 : Int32)) % (46341 : Int32)) ((1 : Int32) + ((p2 &&& (2147483647 : Int32)) % ((p1 &&& (2147483647 : Int32)) % (46341 : Int32))))).toInt64), .second, .val (.long (own_first ((p1 &&& (2147483647 : Int32)) % (46341 : Int32)) (((1 : Int32) + ((p2 &&& (2147483647 : Int32)) % ((p1 &&& (2147483647 : Int32)) % (46341 : Int32)))) - (1 : Int32))).toInt64), .second] [(.int (((p1 &&& (2147483647 : Int32)) % (46341 : Int32)) - ((1 : Int32) + ((p2 &&& (2147483647 : Int32)) % ((p1 &&& (2147483647 : Int32)) % (46341 : Int32)))))), (.long (own_first ((p1 &&& (2147483647 : Int32)) % (46341 : Int32)) ((1 : Int32) + ((p2 &&& (2147483647 : Int32)) % ((p1 &&& (2147483647 : Int32)) % (46341 : Int32))))).toInt64), (.long (own_first ((p1 &&& (2147483647 : Int32)) % (46341 : Int32)) (((1 : Int32) + ((p2 &&& (2147483647 : Int32)) % ((p1 &&& (2147483647 : Int32)) % (46341 : Int32)))) - (1 : Int32))).toInt64)])) _
      refine XS.iconst X16.here hx rfl (hb hby at_72) ?_
      show Steps p.tables e below (T16.setTop (mkF m 73 #[.val (.int p1), .val (.int p2), .val (.int ((p1 &&& (2147483647 : Int32)) % (46341 : Int32))), .val (.ref b2), .val (.int ((1 : Int32) + ((p2 &&& (2147483647 : Int32)) % ((p1 &&& (2147483647 : Int32)) % (46341 : Int32))))), .val (.long (own_first ((p1 &&& (2147483647 : Int32)) % (46341 : Int32)) ((1 : Int32) + ((p2 &&& (2147483647 : Int32)) % ((p1 &&& (2147483647 : Int32)) % (46341 : Int32))))).toInt64), .second, .val (.long (own_first ((p1 &&& (2147483647 : Int32)) % (46341 : Int32)) (((1 : Int32) + ((p2 &&& (2147483647 : Int32)) % ((p1 &&& (2147483647 : Int32)) % (46341 : Int32)))) - (1 : Int32))).toInt64), .second] [(.int (1 : Int32)), (.int (((p1 &&& (2147483647 : Int32)) % (46341 : Int32)) - ((1 : Int32) + ((p2 &&& (2147483647 : Int32)) % ((p1 &&& (2147483647 : Int32)) % (46341 : Int32)))))), (.long (own_first ((p1 &&& (2147483647 : Int32)) % (46341 : Int32)) ((1 : Int32) + ((p2 &&& (2147483647 : Int32)) % ((p1 &&& (2147483647 : Int32)) % (46341 : Int32))))).toInt64), (.long (own_first ((p1 &&& (2147483647 : Int32)) % (46341 : Int32)) (((1 : Int32) + ((p2 &&& (2147483647 : Int32)) % ((p1 &&& (2147483647 : Int32)) % (46341 : Int32)))) - (1 : Int32))).toInt64)])) _
      refine XS.iadd X16.here hx rfl (hb hby at_73) rfl ?_
      show Steps p.tables e below (T16.setTop (mkF m 74 #[.val (.int p1), .val (.int p2), .val (.int ((p1 &&& (2147483647 : Int32)) % (46341 : Int32))), .val (.ref b2), .val (.int ((1 : Int32) + ((p2 &&& (2147483647 : Int32)) % ((p1 &&& (2147483647 : Int32)) % (46341 : Int32))))), .val (.long (own_first ((p1 &&& (2147483647 : Int32)) % (46341 : Int32)) ((1 : Int32) + ((p2 &&& (2147483647 : Int32)) % ((p1 &&& (2147483647 : Int32)) % (46341 : Int32))))).toInt64), .second, .val (.long (own_first ((p1 &&& (2147483647 : Int32)) % (46341 : Int32)) (((1 : Int32) + ((p2 &&& (2147483647 : Int32)) % ((p1 &&& (2147483647 : Int32)) % (46341 : Int32)))) - (1 : Int32))).toInt64), .second] [(.int ((((p1 &&& (2147483647 : Int32)) % (46341 : Int32)) - ((1 : Int32) + ((p2 &&& (2147483647 : Int32)) % ((p1 &&& (2147483647 : Int32)) % (46341 : Int32))))) + (1 : Int32))), (.long (own_first ((p1 &&& (2147483647 : Int32)) % (46341 : Int32)) ((1 : Int32) + ((p2 &&& (2147483647 : Int32)) % ((p1 &&& (2147483647 : Int32)) % (46341 : Int32))))).toInt64), (.long (own_first ((p1 &&& (2147483647 : Int32)) % (46341 : Int32)) (((1 : Int32) + ((p2 &&& (2147483647 : Int32)) % ((p1 &&& (2147483647 : Int32)) % (46341 : Int32)))) - (1 : Int32))).toInt64)])) _
      refine XS.i2l X16.here hx rfl (hb hby at_74) rfl ?_
      show Steps p.tables e below (T16.setTop (mkF m 75 #[.val (.int p1), .val (.int p2), .val (.int ((p1 &&& (2147483647 : Int32)) % (46341 : Int32))), .val (.ref b2), .val (.int ((1 : Int32) + ((p2 &&& (2147483647 : Int32)) % ((p1 &&& (2147483647 : Int32)) % (46341 : Int32))))), .val (.long (own_first ((p1 &&& (2147483647 : Int32)) % (46341 : Int32)) ((1 : Int32) + ((p2 &&& (2147483647 : Int32)) % ((p1 &&& (2147483647 : Int32)) % (46341 : Int32))))).toInt64), .second, .val (.long (own_first ((p1 &&& (2147483647 : Int32)) % (46341 : Int32)) (((1 : Int32) + ((p2 &&& (2147483647 : Int32)) % ((p1 &&& (2147483647 : Int32)) % (46341 : Int32)))) - (1 : Int32))).toInt64), .second] [(.long ((((p1 &&& (2147483647 : Int32)) % (46341 : Int32)) - ((1 : Int32) + ((p2 &&& (2147483647 : Int32)) % ((p1 &&& (2147483647 : Int32)) % (46341 : Int32))))) + (1 : Int32)).toInt64), (.long (own_first ((p1 &&& (2147483647 : Int32)) % (46341 : Int32)) ((1 : Int32) + ((p2 &&& (2147483647 : Int32)) % ((p1 &&& (2147483647 : Int32)) % (46341 : Int32))))).toInt64), (.long (own_first ((p1 &&& (2147483647 : Int32)) % (46341 : Int32)) (((1 : Int32) + ((p2 &&& (2147483647 : Int32)) % ((p1 &&& (2147483647 : Int32)) % (46341 : Int32)))) - (1 : Int32))).toInt64)])) _
      refine XS.ladd X16.here hx rfl (hb hby at_75) rfl ?_
      show Steps p.tables e below (T16.setTop (mkF m 76 #[.val (.int p1), .val (.int p2), .val (.int ((p1 &&& (2147483647 : Int32)) % (46341 : Int32))), .val (.ref b2), .val (.int ((1 : Int32) + ((p2 &&& (2147483647 : Int32)) % ((p1 &&& (2147483647 : Int32)) % (46341 : Int32))))), .val (.long (own_first ((p1 &&& (2147483647 : Int32)) % (46341 : Int32)) ((1 : Int32) + ((p2 &&& (2147483647 : Int32)) % ((p1 &&& (2147483647 : Int32)) % (46341 : Int32))))).toInt64), .second, .val (.long (own_first ((p1 &&& (2147483647 : Int32)) % (46341 : Int32)) (((1 : Int32) + ((p2 &&& (2147483647 : Int32)) % ((p1 &&& (2147483647 : Int32)) % (46341 : Int32)))) - (1 : Int32))).toInt64), .second] [(.long ((own_first ((p1 &&& (2147483647 : Int32)) % (46341 : Int32)) ((1 : Int32) + ((p2 &&& (2147483647 : Int32)) % ((p1 &&& (2147483647 : Int32)) % (46341 : Int32))))).toInt64 + ((((p1 &&& (2147483647 : Int32)) % (46341 : Int32)) - ((1 : Int32) + ((p2 &&& (2147483647 : Int32)) % ((p1 &&& (2147483647 : Int32)) % (46341 : Int32))))) + (1 : Int32)).toInt64)), (.long (own_first ((p1 &&& (2147483647 : Int32)) % (46341 : Int32)) (((1 : Int32) + ((p2 &&& (2147483647 : Int32)) % ((p1 &&& (2147483647 : Int32)) % (46341 : Int32)))) - (1 : Int32))).toInt64)])) _
      refine XS.lcmp X16.here hx rfl (hb hby at_76) rfl ?_
      show Steps p.tables e below (T16.setTop (mkF m 77 #[.val (.int p1), .val (.int p2), .val (.int ((p1 &&& (2147483647 : Int32)) % (46341 : Int32))), .val (.ref b2), .val (.int ((1 : Int32) + ((p2 &&& (2147483647 : Int32)) % ((p1 &&& (2147483647 : Int32)) % (46341 : Int32))))), .val (.long (own_first ((p1 &&& (2147483647 : Int32)) % (46341 : Int32)) ((1 : Int32) + ((p2 &&& (2147483647 : Int32)) % ((p1 &&& (2147483647 : Int32)) % (46341 : Int32))))).toInt64), .second, .val (.long (own_first ((p1 &&& (2147483647 : Int32)) % (46341 : Int32)) (((1 : Int32) + ((p2 &&& (2147483647 : Int32)) % ((p1 &&& (2147483647 : Int32)) % (46341 : Int32)))) - (1 : Int32))).toInt64), .second] [(.int (lcmpW (own_first ((p1 &&& (2147483647 : Int32)) % (46341 : Int32)) (((1 : Int32) + ((p2 &&& (2147483647 : Int32)) % ((p1 &&& (2147483647 : Int32)) % (46341 : Int32)))) - (1 : Int32))).toInt64 ((own_first ((p1 &&& (2147483647 : Int32)) % (46341 : Int32)) ((1 : Int32) + ((p2 &&& (2147483647 : Int32)) % ((p1 &&& (2147483647 : Int32)) % (46341 : Int32))))).toInt64 + ((((p1 &&& (2147483647 : Int32)) % (46341 : Int32)) - ((1 : Int32) + ((p2 &&& (2147483647 : Int32)) % ((p1 &&& (2147483647 : Int32)) % (46341 : Int32))))) + (1 : Int32)).toInt64)))])) _
      refine XS.ifNo X16.here hx rfl (hb hby at_77) rfl (XT.ll_ne_f hk17) ?_
      show Steps p.tables e below (T16.setTop (mkF m 80 #[.val (.int p1), .val (.int p2), .val (.int ((p1 &&& (2147483647 : Int32)) % (46341 : Int32))), .val (.ref b2), .val (.int ((1 : Int32) + ((p2 &&& (2147483647 : Int32)) % ((p1 &&& (2147483647 : Int32)) % (46341 : Int32))))), .val (.long (own_first ((p1 &&& (2147483647 : Int32)) % (46341 : Int32)) ((1 : Int32) + ((p2 &&& (2147483647 : Int32)) % ((p1 &&& (2147483647 : Int32)) % (46341 : Int32))))).toInt64), .second, .val (.long (own_first ((p1 &&& (2147483647 : Int32)) % (46341 : Int32)) (((1 : Int32) + ((p2 &&& (2147483647 : Int32)) % ((p1 &&& (2147483647 : Int32)) % (46341 : Int32)))) - (1 : Int32))).toInt64), .second] [])) _
      refine XS.iconst X16.here hx rfl (hb hby at_80) ?_
      show Steps p.tables e below (T16.setTop (mkF m 81 #[.val (.int p1), .val (.int p2), .val (.int ((p1 &&& (2147483647 : Int32)) % (46341 : Int32))), .val (.ref b2), .val (.int ((1 : Int32) + ((p2 &&& (2147483647 : Int32)) % ((p1 &&& (2147483647 : Int32)) % (46341 : Int32))))), .val (.long (own_first ((p1 &&& (2147483647 : Int32)) % (46341 : Int32)) ((1 : Int32) + ((p2 &&& (2147483647 : Int32)) % ((p1 &&& (2147483647 : Int32)) % (46341 : Int32))))).toInt64), .second, .val (.long (own_first ((p1 &&& (2147483647 : Int32)) % (46341 : Int32)) (((1 : Int32) + ((p2 &&& (2147483647 : Int32)) % ((p1 &&& (2147483647 : Int32)) % (46341 : Int32)))) - (1 : Int32))).toInt64), .second] [(.int (1 : Int32))])) _
      refine XS.goto X16.here hx rfl (pc0 := 81) (pc' := 85) rfl (hb hby at_81) (by decide) (by decide) ?_
      show Steps p.tables e below (T16.setTop (mkF m 85 #[.val (.int p1), .val (.int p2), .val (.int ((p1 &&& (2147483647 : Int32)) % (46341 : Int32))), .val (.ref b2), .val (.int ((1 : Int32) + ((p2 &&& (2147483647 : Int32)) % ((p1 &&& (2147483647 : Int32)) % (46341 : Int32))))), .val (.long (own_first ((p1 &&& (2147483647 : Int32)) % (46341 : Int32)) ((1 : Int32) + ((p2 &&& (2147483647 : Int32)) % ((p1 &&& (2147483647 : Int32)) % (46341 : Int32))))).toInt64), .second, .val (.long (own_first ((p1 &&& (2147483647 : Int32)) % (46341 : Int32)) (((1 : Int32) + ((p2 &&& (2147483647 : Int32)) % ((p1 &&& (2147483647 : Int32)) % (46341 : Int32)))) - (1 : Int32))).toInt64), .second] [(.int (1 : Int32))])) _
      exact retN X16 hx (t := .boolean) Bd.returns (by simp) (hb hby at_85) hr
    · show Q0 Z p1 p2 h0 n0 _ T16.heap _
      rw [hh16]
      exact ⟨rfl, N16⟩
set_option maxRecDepth 65536 in
set_option maxHeartbeats 40000000 in
theorem comes_1 {Post : Tables → Env → Array Value → State → Outcome → State → Prop} (hpost : ∀ tb e args s v u, (limb_1_1.after args s (.returned v) u = true ∧ limb_1_2.after args s (.returned v) u = true ∧ True) → FrameEnd s (.returned v) u (Jvm.fieldLocs frame_1_writes args s ++ Jvm.arrayLocs frame_1_arrays args s ++ Jvm.staticLocs frame_1_statics s) 16 128 → Post tb e args s (.returned v) u) :
    ArmFor flags0 classFile x code maxLocals ret World_1 tables_1 room_1 Calls_1 rest_1 Pre_1 Post := by
  intro l hfl _ _ p e ha hc hk s m args below hf hA hF happ hP
  obtain ⟨hcalls, hrest, hpre⟩ := hP
  obtain ⟨-, -, -, hnamed, -, -, -, hat⟩ := (Spec.applies_iff hf).mp happ
  obtain ⟨hg, hn⟩ := and_e (Cond.before_iff.mp (show (Jvm.Cond.and given_1 narrow_1).before args s = true from hpre))
  obtain ⟨hcount, g0⟩ := and_e hg
  obtain ⟨ga0, g1⟩ := and_e g0
  have ga1 := g1
  obtain ⟨w0, w1, rfl⟩ : ∃ w0 w1 : Value, args = #[w0, w1] := by
    have hs : args.size = 2 := by simpa [Cond.value, given_1] using hcount
    obtain ⟨L⟩ := args
    match L, hs with
    | [w0, w1], _ => exact ⟨w0, w1, rfl⟩
  have hw := fun d (hd : d ∈ tables_1) => atoms_spec (ws := Jvm.Cond.code x code maxLocals ret :: tables_1) hat d (List.mem_cons_of_mem _ hd)
  have hfit : Fit s := fun {y c} hc i hi => by
    obtain ⟨ha, rfl⟩ := Array.getElem?_eq_some_iff.mp hc
    have q := List.all_eq_true.mp ((Array.all_eq_true_iff_forall_mem.mp hF) _ (Array.getElem_mem ha)) i (List.mem_range.mpr hi)
    simpa [Array.getElem?_eq_getElem hi] using q
  obtain ⟨i0, ei0⟩ := is_v ga0
  obtain rfl : w0 = (.int i0) := Option.some.inj ei0
  obtain ⟨i1, ei1⟩ := is_v ga1
  obtain rfl : w1 = (.int i1) := Option.some.inj ei1
  obtain ⟨n, o, h1, h2, h3, _, L, rfl, ⟨rfl, N⟩, hq⟩ := rm0 l s _ hw tables_1 i0 i1 s.heap s.heap.size (Nat.le_refl _) p e ha hc hk s m _ below hf ((Spec.applies_iff_loose hf).mp happ).1 ⟨rfl, State.Warmed39.refl s, rfl⟩ trivial
  refine ⟨n, _, h1, h2, h3, hpost _ _ _ _ _ _ ⟨Cond.after_iff.mpr rfl, Cond.after_iff.mpr (eq_i res_at (Term.int_eval (1)) rfl), trivial⟩ ⟨hq.1, hq.2.1, (hq.2.2.sift fun y hy => Or.inr (N y hy)).mono (by decide) (by decide)⟩⟩
theorem main_1_1 : Claimed_1_1 := comes_1 fun _ _ _ _ _ _ h hF => ⟨h.1, hF⟩
theorem main_1_2 : Claimed_1_2 := comes_1 fun _ _ _ _ _ _ h hF => ⟨h.2.1, hF⟩
end Jvm.Pilot.@@N@@
namespace Jvm.Pilot.@@N@@
open Jvm Jvm.ClassFile Sem Op Lib Jvm.Free Jvm.Stand Jvm.Pilot.@@N@@.Jvm.D
/-! MADE BY PROGRAM (witnessworld.py) out of the Statement's table words and the real class files: 10 classes; the members and pool entries that the words name. The judged class is class 1, her method 1. -/
namespace start1
open Jvm.ClassFile
def u (s : String) : CpInfo := .utf8 (stringToUtf16 s)
/-- a pool by its gaps: so many unusable entries, then the entry; so many at the end -/
def gap : Nat → List CpInfo → List CpInfo
  | 0, r => r
  | n + 1, r => .unusable :: gap n r
def poolList (es : List (Nat × CpInfo)) (last : Nat) : List CpInfo := es.foldr (fun e r => gap e.1 (e.2 :: r)) (gap last [])
def pool (es : List (Nat × CpInfo)) (last : Nat) : Array CpInfo := ⟨poolList es last⟩
def fileOf (pool : Array CpInfo) (this : Nat) (attrs : Array Attribute := #[]) (ms : Array MethodInfo := #[]) (fl : Nat := 33) (sup : Nat := 0) (ifs : Array Nat := #[]) (fds : Array FieldInfo := #[]) : ClassFile where
  minorVersion := 0
  majorVersion := 65
  constantPool := pool
  accessFlags := fl
  thisClass := this
  superClass := sup
  interfaces := ifs
  fields := fds
  methods := ms
  attributes := attrs
def plain (name : String) (sup : Option ClassId) : Class where
  name := name
  kind := .ordinary
  loader := none
  accessFlags := 33
  super := sup
  interfaces := #[]
  cf := none
  fields := #[]
  methods := #[]
  instanceTypes := #[]
  staticTypes := #[]
  resolved := #[]
  callSites := []
  init := .initialized
  statics := none
  mirror := none

def pool0 : Array CpInfo := pool [(5, u "<init>"), (0, u "()V"), (1, .class_ 10), (1, u "java/lang/Object")] 113

def k0c0 : Code := { maxStack := 0, maxLocals := 1, code := object_method_1_code, exceptionTable := #[], attributes := #[] }
def k0m0 : Method := { name := "<init>", desc := "()V", sig := { parameters := [], returnType := none }, accessFlags := 1, code := some k0c0 }
/-- java/lang/Object -/
def k0 : Class := { plain "java/lang/Object" none with
  accessFlags := 33
  interfaces := #[]
  cf := some (fileOf pool0 8 #[] #[{ accessFlags := 1, nameIndex := 5, descriptorIndex := 6, attributes := #[] }] 33 0 #[] #[])
  fields := #[]
  methods := #[k0m0]
  instanceTypes := #[]
  staticTypes := #[]
  resolved := Array.replicate 124 none
  statics := none }

def pool1 : Array CpInfo := pool [(2, .class_ 4), (1, u "java/lang/Object"), (0, u "<init>"), (0, u "()V"), (0, .integer 2147483647), (0, .integer 46341), (0, .class_ 10), (0, u "com/example/narrow_bound/narrowbound/analysis/MergedDates"), (0, .methodref 9 12), (0, .nameAndType 5 13), (0, u "(I)V"), (0, .methodref 9 15), (0, .nameAndType 16 17), (0, u "first"), (0, u "(I)I"), (0, .class_ 19), (0, u "com/example/narrow_bound/narrowbound/analysis/MergedDatesFirstPinLaw"), (2, u "law"), (0, u "(II)Z")] 3

def k1m0 : Method := { name := "<init>", desc := "()V", sig := { parameters := [], returnType := none }, accessFlags := 1, code := none }
def k1c1 : Code := { maxStack := 6, maxLocals := 9, code := code, exceptionTable := #[], attributes := #[] }
def k1m1 : Method := { name := "law", desc := "(II)Z", sig := { parameters := [.int, .int], returnType := some .boolean }, accessFlags := 9, code := some k1c1 }
/-- com/example/narrow_bound/narrowbound/analysis/MergedDatesFirstPinLaw -/
def k1 : Class := { plain "com/example/narrow_bound/narrowbound/analysis/MergedDatesFirstPinLaw" (some 0) with
  accessFlags := 49
  interfaces := #[]
  cf := some (fileOf pool1 18 #[] #[{ accessFlags := 1, nameIndex := 5, descriptorIndex := 6, attributes := #[] }, { accessFlags := 9, nameIndex := 22, descriptorIndex := 23, attributes := #[] }] 49 2 #[] #[])
  fields := #[]
  methods := #[k1m0, k1m1]
  instanceTypes := #[]
  staticTypes := #[]
  resolved := Array.replicate 27 none
  statics := none }

def pool2 : Array CpInfo := pool [(1, .class_ 2), (0, u "com/example/narrow_bound/narrowbound/analysis/DateLayout"), (0, .class_ 4), (0, u "java/lang/Object"), (10, .class_ 16), (0, u "com/example/narrow_bound/narrowbound/analysis/DateLayout$Pair")] 2

/-- com/example/narrow_bound/narrowbound/analysis/DateLayout -/
def k2 : Class := { plain "com/example/narrow_bound/narrowbound/analysis/DateLayout" (some 0) with
  accessFlags := 1536
  interfaces := #[]
  cf := some (fileOf pool2 1 #[.nestMembers #[15]] #[] 1536 3 #[] #[])
  fields := #[]
  methods := #[]
  instanceTypes := #[]
  staticTypes := #[]
  resolved := Array.replicate 19 none
  statics := none }

def pool3 : Array CpInfo := pool [(1, .methodref 2 3), (0, .class_ 4), (0, .nameAndType 5 6), (0, u "java/lang/Object"), (0, u "<init>"), (0, u "()V"), (0, .fieldref 8 9), (0, .class_ 10), (0, .nameAndType 11 12), (0, u "com/example/narrow_bound/narrowbound/analysis/MergedDates"), (0, u "top"), (0, u "I"), (2, u "first"), (0, u "(I)I"), (12, .class_ 30), (0, u "com/example/narrow_bound/narrowbound/analysis/DateLayout"), (0, u "(I)V")] 11

def k3c0 : Code := { maxStack := 2, maxLocals := 2, code := prog_7_method_1_code, exceptionTable := #[], attributes := #[] }
def k3m0 : Method := { name := "<init>", desc := "(I)V", sig := { parameters := [.int], returnType := none }, accessFlags := 0, code := some k3c0 }
def k3c1 : Code := { maxStack := 4, maxLocals := 3, code := prog_7_method_2_code, exceptionTable := #[], attributes := #[] }
def k3m1 : Method := { name := "first", desc := "(I)I", sig := { parameters := [.int], returnType := some .int }, accessFlags := 1, code := some k3c1 }
/-- com/example/narrow_bound/narrowbound/analysis/MergedDates -/
def k3 : Class := { plain "com/example/narrow_bound/narrowbound/analysis/MergedDates" (some 0) with
  accessFlags := 32
  interfaces := #[2]
  cf := some (fileOf pool3 8 #[] #[{ accessFlags := 0, nameIndex := 5, descriptorIndex := 31, attributes := #[] }, { accessFlags := 1, nameIndex := 15, descriptorIndex := 16, attributes := #[] }] 32 2 #[29] #[{ accessFlags := 18, nameIndex := 11, descriptorIndex := 12, attributes := #[] }])
  fields := #[{ name := "top", type := .int, accessFlags := 18, slot := 0, constantValue := 0 }]
  methods := #[k3m0, k3m1]
  instanceTypes := #[.int]
  staticTypes := #[]
  resolved := Array.replicate 43 none
  statics := none }

def pool4 : Array CpInfo := pool [(1, u "java/lang/Cloneable"), (0, .class_ 1), (0, u "java/lang/Object"), (0, .class_ 3)] 3

/-- java/lang/Cloneable -/
def k4 : Class := { plain "java/lang/Cloneable" (some 0) with
  accessFlags := 1537
  interfaces := #[]
  cf := some (fileOf pool4 2 #[] #[] 1537 4 #[] #[])
  fields := #[]
  methods := #[]
  instanceTypes := #[]
  staticTypes := #[]
  resolved := Array.replicate 8 none
  statics := none }

def pool5 : Array CpInfo := pool [(1, u "java/io/Serializable"), (0, .class_ 1), (0, u "java/lang/Object"), (0, .class_ 3)] 3

/-- java/io/Serializable -/
def k5 : Class := { plain "java/io/Serializable" (some 0) with
  accessFlags := 1537
  interfaces := #[]
  cf := some (fileOf pool5 2 #[] #[] 1537 4 #[] #[])
  fields := #[]
  methods := #[]
  instanceTypes := #[]
  staticTypes := #[]
  resolved := Array.replicate 8 none
  statics := none }

/-- the primitive byte -/
def k6 : Class := { plain "byte" none with kind := .primitive 'B', accessFlags := 0x411 }
/-- [B -/
def k7 : Class := { plain "[B" (some 0) with kind := .array 6 .byte, interfaces := #[4, 5], accessFlags := 1041 }

/-- the primitive int -/
def k8 : Class := { plain "int" none with kind := .primitive 'I', accessFlags := 0x411 }
/-- [I -/
def k9 : Class := { plain "[I" (some 0) with kind := .array 8 .int, interfaces := #[4, 5], accessFlags := 1041 }

def heap : Heap := #[]
def classes : Array Class := #[k0, k1, k2, k3, k4, k5, k6, k7, k8, k9]
def interned : List (Array UInt16 × Addr) := []
def slotsUsed : Nat := 0
def theMethod : MethodId := ⟨1, 1⟩
def args0 : Array Value := #[.int 5, .int 7]
def aboutOver (below : List Frame) : State where
  vm := { classes := classes, interned := interned.toArray }
  heap := heap
  slotsUsed := slotsUsed
  threads := #[{ frames := .invoking theMethod args0 :: below }]
def below0 : List Frame := [.native { method := ⟨0, 0⟩, args := #[] }]
def about1 : State := aboutOver below0
def p0 : Program := .bare "" "" ""
def e0 : Env := launch0.env 0 0 0
theorem w_frames : about1.frames = Frame.invoking theMethod args0 :: below0 := rfl
set_option maxRecDepth 65536 in
theorem w_args : argsFit about1.vm theMethod args0 = true := by decide +kernel
set_option maxRecDepth 65536 in
theorem w_heap : heapFits about1 = true := by decide +kernel
set_option maxRecDepth 65536 in
theorem w_runnable : about1.curStatus? = some .runnable := by decide +kernel
set_option maxRecDepth 65536 in
theorem w_alone : about1.alone = true := by decide +kernel
set_option maxRecDepth 65536 in
theorem w_named : about1.methodNamed? x = some theMethod := by decide +kernel
set_option maxRecDepth 65536 in
theorem w_hears : about1.hears theMethod below0 = true := by decide +kernel
set_option maxRecDepth 65536 in
theorem w_ripe : about1.ripe theMethod args0 below0 = true := by decide +kernel
theorem w_running : about1.status = .running := rfl
set_option maxRecDepth 65536 in
theorem w_room : about1.hasRoom e0.platform room_1 = true :=
  launch0.hasRoom_least _ room_1 (by decide +kernel) (by decide +kernel) (by decide +kernel) (by decide +kernel) (by decide +kernel) (by decide +kernel)
theorem allAtoms_all (ts : List Jvm.Cond) (a : Array Jvm.Value) (st : Jvm.State) : (allAtoms ts).before a st = ts.all (fun c => c.before a st) := by
  induction ts with
  | nil => rfl
  | cons c t ih =>
    show (Jvm.Cond.and c (allAtoms t)).before a st = _
    rw [Jvm.Cond.before_and, ih, List.all_cons]
def words1 : List Jvm.Cond := Jvm.Cond.code x code maxLocals ret :: tables_1
/-- a 'code' word, met by the world's own term for the bytes: nothing is compared byte by byte -/
theorem code_word {y : MethodName} {bytes : ByteArray} {mx : Nat} {rt : Option FieldType} {a : Array Value} {s : State} {m : MethodId} {meth : Method} {c : Code} (h1 : s.methodNamed? y = some m) (h2 : s.vm.method? m = some meth) (h3 : meth.code = some c) (h4 : c.code = bytes)
    (h5 : (c.maxLocals == mx && c.exceptionTable.isEmpty && decide (c.maxStack ≤ mostOperands) && decide (meth.sig.returnType = rt) && !meth.locks && decide (parseMethodDescriptor y.desc = some meth.sig)) = true) : (Jvm.Cond.code y bytes mx rt).before a s = true := by
  simp only [Bool.and_eq_true, beq_iff_eq, Bool.not_eq_true', decide_eq_true_eq] at h5
  obtain ⟨⟨⟨⟨⟨g1, g2⟩, g3⟩, g4⟩, g5⟩, g6⟩ := h5
  simp [Cond.before, Cond.holds, Cond.value, h1, h2, h3, h4, g1, g2, g3, g4, g5, g6]
def isCode : Jvm.Cond → Bool
  | .code _ _ _ _ => true
  | _ => false
theorem all_split {L : List Jvm.Cond} {P : Jvm.Cond → Bool} (h1 : L.all (fun c => isCode c || P c) = true) (h2 : ∀ c ∈ L.filter isCode, P c = true) : L.all P = true := by
  refine List.all_eq_true.mpr fun c hc => ?_
  have h := List.all_eq_true.mp h1 c hc
  rcases Bool.eq_false_or_eq_true (isCode c) with hi | hi
  · exact h2 c (List.mem_filter.mpr ⟨hc, hi⟩)
  · simpa [hi] using h
set_option maxRecDepth 65536 in
theorem w_c0 : (Jvm.Cond.code x code maxLocals ret).before args0 about1 = true := code_word (m := ⟨1, 1⟩) (meth := k1m1) (c := k1c1) (by decide +kernel) rfl rfl rfl (by decide +kernel)
set_option maxRecDepth 65536 in
theorem w_c1 : (Jvm.Cond.code ({ cls := "com/example/narrow_bound/narrowbound/analysis/MergedDates", name := "<init>", desc := "(I)V" } : Jvm.MethodName) prog_7_method_1_code (2 : Nat) (Option.none : Option Jvm.ClassFile.FieldType)).before args0 about1 = true := code_word (m := ⟨3, 0⟩) (meth := k3m0) (c := k3c0) (by decide +kernel) rfl rfl rfl (by decide +kernel)
set_option maxRecDepth 65536 in
theorem w_c2 : (Jvm.Cond.code ({ cls := "java/lang/Object", name := "<init>", desc := "()V" } : Jvm.MethodName) object_method_1_code (1 : Nat) (Option.none : Option Jvm.ClassFile.FieldType)).before args0 about1 = true := code_word (m := ⟨0, 0⟩) (meth := k0m0) (c := k0c0) (by decide +kernel) rfl rfl rfl (by decide +kernel)
set_option maxRecDepth 65536 in
theorem w_c3 : (Jvm.Cond.code ({ cls := "com/example/narrow_bound/narrowbound/analysis/MergedDates", name := "first", desc := "(I)I" } : Jvm.MethodName) prog_7_method_2_code (3 : Nat) (Option.some Jvm.ClassFile.FieldType.int)).before args0 about1 = true := code_word (m := ⟨3, 1⟩) (meth := k3m1) (c := k3c1) (by decide +kernel) rfl rfl rfl (by decide +kernel)
def codes1 : List Jvm.Cond := [Jvm.Cond.code x code maxLocals ret, Jvm.Cond.code ({ cls := "com/example/narrow_bound/narrowbound/analysis/MergedDates", name := "<init>", desc := "(I)V" } : Jvm.MethodName) prog_7_method_1_code (2 : Nat) (Option.none : Option Jvm.ClassFile.FieldType), Jvm.Cond.code ({ cls := "java/lang/Object", name := "<init>", desc := "()V" } : Jvm.MethodName) object_method_1_code (1 : Nat) (Option.none : Option Jvm.ClassFile.FieldType), Jvm.Cond.code ({ cls := "com/example/narrow_bound/narrowbound/analysis/MergedDates", name := "first", desc := "(I)I" } : Jvm.MethodName) prog_7_method_2_code (3 : Nat) (Option.some Jvm.ClassFile.FieldType.int)]
set_option maxRecDepth 65536 in
theorem codes_eq : words1.filter isCode = codes1 := rfl
theorem w_codes : ∀ c ∈ words1.filter isCode, c.before args0 about1 = true := by
  rw [codes_eq]
  intro c hc
  simp only [codes1, List.mem_cons, List.not_mem_nil, or_false] at hc
  rcases hc with rfl | rfl | rfl | rfl
  · exact w_c0
  · exact w_c1
  · exact w_c2
  · exact w_c3
set_option maxRecDepth 65536 in
theorem w_t1 : words1.all (fun c => isCode c || c.before args0 about1) = true := by decide +kernel
theorem w_tables : (allAtoms (Jvm.Cond.code x code maxLocals ret :: tables_1)).before args0 about1 = true := by
  rw [allAtoms_all]
  show words1.all (fun c => c.before args0 about1) = true
  refine all_split ?_ w_codes
  rw [w_t1]
set_option maxRecDepth 65536 in
theorem w_case : (Jvm.Cond.and given_1 narrow_1).before args0 about1 = true := by decide +kernel
theorem w_applies : (headSpec (Jvm.Cond.code x code maxLocals ret :: tables_1) room_1).applies x e0.platform about1 = true :=
  (Spec.applies_iff w_frames).mpr ⟨w_running, w_runnable, w_alone, w_named, w_hears, w_ripe, w_room, w_tables⟩
theorem atStart : AtStart classFile x code maxLocals ret World_1 tables_1 room_1 Calls_1 rest_1 Pre_1 launch0 p0 e0 about1 theMethod args0 below0 :=
  ⟨lists_1, trivial, launch0.admits_env _ _ _, launch0.least_env, fairChoices_fair.cas, fairChoices_fair.clock, w_frames, w_args, w_heap, w_applies, trivial, trivial, w_case⟩
end start1
theorem witness_1 : WitnessClaimed_1 := ⟨start1.p0, start1.e0, start1.about1, start1.theMethod, start1.args0, start1.below0, start1.atStart⟩
end Jvm.Pilot.@@N@@
