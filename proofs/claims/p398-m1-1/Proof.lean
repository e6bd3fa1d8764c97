import JvmDerived
import JvmDerived.Pilot.@@N@@Statement
import JvmDerived.Pilot.@@N@@Code
set_option linter.unusedVariables false
set_option linter.unusedSimpArgs false
namespace Jvm.RoadKit
open Sem ClassFile Op Lib Jvm.Stand Jvm.Free Jvm.LawKit
section New
variable {p : Program} {l : Launch} {e : Env} {R : Room} {s : State} {m : MethodId} {args : Array Value} {below : List Frame} {meth : Method} {c : Code} {T : State} {locs : List Loc} {cells slots : Nat}
theorem retI (X : Stand p l e R s m args below meth c T locs cells slots) (hx : p.tables.exec = Jvm.exec) {pc : Nat} {Ls : Array Slot} {z : Int32} {rest : List Value} (hret : meth.sig.returnType = some .int) (hd : decode c.code pc = .ok (.ireturn, 1)) {fs : List Frame}
    (hl : ∀ (f : JFrame) (acts : List Action), f.method = m → f.locked = none → f.entered = [] → (doReturn e (T.setTop f) acts (some (.int z))).1 = T.setFrames fs) : Steps p.tables e below (T.setTop (mkF m pc Ls (.int z :: rest))) (T.setFrames fs) := by
  have hm' : T.vm.method? m = some meth := X.method'
  have hn : narrow .int (.int z) = .int z := rfl
  show Steps p.tables e below (T.setTop { method := m, pc := pc, locals := Ls, stack := _ :: rest, locked := none }) _
  jvm_step X.here [X.here.top, hx, hd, hm', hret, hn]
  first | (intro acts; rw [hl _ acts rfl rfl rfl]) | rw [hl _ _ rfl rfl rfl]
  exact Steps.refl _
end New
theorem own_sta_keep {Z : State} {h h' : Heap} {C n d : String} {v : Value} {ws : List Addr} (F : Sta Z h C n d v) (K : Keep h h' ws) (q : ∀ x ∈ ws, ∀ c : Cell, h[x]? = some c → c.vm.isStatics = false) : Sta Z h' C n d v := by
  obtain ⟨cf, i, k, f, st, cell, h1, h2, h3, h4, h5, h6, h7⟩ := F
  exact ⟨cf, i, k, f, st, cell, h1, h2, h3, h4, K.2.1 st cell h5 (fun hm => by rw [q st hm cell h5] at h6; cases h6), h6, h7⟩
theorem own_plain_Exa {Z : State} {h : Heap} {a : Addr} {C : String} (F : Exa Z h a C) : ∀ c : Cell, h[a]? = some c → c.vm.isStatics = false := fun c hc => by
  obtain ⟨cell, _, h1, -, -, h4, -⟩ := F
  cases h1.symm.trans hc; exact h4
theorem own_plain_Arv {Z : State} {h : Heap} {a : Addr} {k : ClassId} {ty : FieldType} {n : Int32} {vs : List Value} {d : Value} (F : Arv Z h a k ty n vs d) : ∀ c : Cell, h[a]? = some c → c.vm.isStatics = false := fun c hc => by
  obtain ⟨cell, A, -⟩ := F
  cases A.1.symm.trans hc; exact A.plain
end Jvm.RoadKit
namespace Jvm.Pilot.@@N@@
open Jvm Jvm.ClassFile Sem Op Lib Jvm.Free Jvm.Stand Jvm.LawKit Jvm.RoadKit Bundle Jvm.Pilot.@@N@@.Jvm.D
def bI (P : Prop) [Decidable P] : Int32 := if P then 1 else 0
theorem bI_eq {P Q : Prop} [Decidable P] [Decidable Q] : bI P = bI Q ↔ (P ↔ Q) := by unfold bI; by_cases h : P <;> by_cases g : Q <;> simp [h, g]
theorem bI_eq1 {P : Prop} [Decidable P] : bI P = 1 ↔ P := by unfold bI; by_cases h : P <;> simp [h]
theorem bI_1eq {P : Prop} [Decidable P] : 1 = bI P ↔ P := by unfold bI; by_cases h : P <;> simp [h]
theorem bI_eq0 {P : Prop} [Decidable P] : bI P = 0 ↔ (P ↔ False) := by unfold bI; by_cases h : P <;> simp [h]
theorem bI_0eq {P : Prop} [Decidable P] : 0 = bI P ↔ (False ↔ P) := by unfold bI; by_cases h : P <;> simp [h]
theorem bI_t {P : Prop} [Decidable P] (h : P) : bI P = 1 := if_pos h
theorem bI_f {P : Prop} [Decidable P] (h : ¬ P) : bI P = 0 := if_neg h
theorem bI_iff {P Q : Prop} [Decidable P] [Decidable Q] (h : P ↔ Q) : bI P = bI Q := bI_eq.mpr h
theorem imp_iff_h {P Q : Prop} (h : P) : (P → Q) ↔ Q := ⟨fun f => f h, fun q _ => q⟩
theorem sel_t {P A B : Prop} (h : P) : ((P ∧ A) ∨ (¬ P ∧ B)) ↔ A := ⟨fun q => q.elim (fun z => z.2) (fun z => absurd h z.1), fun a => Or.inl ⟨h, a⟩⟩
theorem sel_f {P A B : Prop} (h : ¬ P) : ((P ∧ A) ∨ (¬ P ∧ B)) ↔ B := ⟨fun q => q.elim (fun z => absurd z.1 h) (fun z => z.2), fun b => Or.inr ⟨h, b⟩⟩
theorem bB_eq_t {P : Prop} [Decidable P] (h : ¬ P) : ifCond.holds .eq (bI P) = true := by rw [bI_f h]; rfl
theorem bB_eq_f {P : Prop} [Decidable P] (h : P) : ifCond.holds .eq (bI P) = false := by rw [bI_t h]; rfl
theorem bB_ne_t {P : Prop} [Decidable P] (h : P) : ifCond.holds .ne (bI P) = true := by rw [bI_t h]; rfl
theorem bB_ne_f {P : Prop} [Decidable P] (h : ¬ P) : ifCond.holds .ne (bI P) = false := by rw [bI_f h]; rfl
theorem bI_nar {P : Prop} [Decidable P] : nar .boolean (bI P) = bI P := by by_cases h : P <;> simp only [bI, h, if_true, if_false] <;> rfl
theorem bI_ret {P : Prop} [Decidable P] : (some (.int (nar .boolean (bI P))) : Option Value) = some (.int (bI P)) := by rw [bI_nar]
theorem bI_one {P : Prop} [Decidable P] (h : P) : (some (.int (nar .boolean (bI P))) : Option Value) = some (.int 1) := by rw [bI_nar, bI_t h]
theorem own_ite_ref {P : Prop} [Decidable P] {x y : Value} (h : x.isRef = true) (g : y.isRef = true) : (if P then x else y).isRef = true := by by_cases q : P <;> simp [q, h, g]
theorem own_fits_ref {t : FieldType} {x : Value} (ht : t.isReference = true) (h : x.isRef = true) : fits t x = true := by cases t <;> first | (cases ht; done) | (cases x <;> simp_all [fits, Value.isRef])
theorem own_eqI {args : Array Value} {s : State} {t : Term} {k : Int32} (h : (Cond.eq t (.int k)).value args s none s [] = some true) : t.eval args s none [] s = some (.int k) := by
  simp only [Cond.value, Term.eval] at h
  cases ht : t.eval args s none [] s with
  | none => simp [ht] at h
  | some v => cases v <;> simp [ht] at h ⊢; exact h
theorem own_eqR {args : Array Value} {s : State} {t u : Term} {v : Value} (hu : u.eval args s none [] s = some v) (hv : v.isRef = true) (h : (Cond.eq t u).value args s none s [] = some true) : t.eval args s none [] s = some v := by
  cases ht : t.eval args s none [] s with
  | none => simp [Cond.value, ht, hu] at h
  | some x =>
    rcases ref_cases hv with rfl | ⟨a, rfl⟩ <;> cases x <;> simp [Cond.value, ht, hu] at h ⊢ <;> exact h
theorem own_len {args : Array Value} {s : State} {t : Term} {a : Addr} {c : Cell} {ty : FieldType} {k : Int32} (ev : t.eval args s none [] s = some (.ref a)) (A : Arr s s.heap a c ty) (h : (Term.length t).eval args s none [] s = some (.int k)) : c.slots.size < 2 ^ 31 ∧ c.slots.size.toInt32 = k := by
  have ha := A.fin (Vm.Alike.refl _)
  by_cases q : c.slots.size < 2 ^ 31
  · rw [len_f ev ha q] at h; exact ⟨q, by injection h with h; injection h⟩
  · simp [Term.eval, ev, ha, q] at h


def own_of (u : Int64) (a b c : Addr) : Value := if u < (3 : Int32).toInt64 then (if u = (0 : Int64) then .ref a else if u = (1 : Int64) then .ref b else .ref c) else .null
def own_rng (q : Int64) (a b c : Addr) : Value := if q < (0 : Int64) then .null else if q < (4398046511104 : Int64) then .ref a else if q < (8796093022208 : Int64) then .ref b else if q < (13194139533312 : Int64) then .ref c else .null
def own_num (k : Int32) (a b c : Addr) : Value := if k = (0 : Int32) then .ref a else if k = (1 : Int32) then .ref b else if k = (2 : Int32) then .ref c else .null
theorem own_of_ref {u : Int64} {a b c : Addr} : (own_of u a b c).isRef = true := by
  unfold own_of; by_cases h1 : u < (3 : Int32).toInt64 <;> by_cases h2 : u = (0 : Int64) <;> by_cases h3 : u = (1 : Int64) <;> simp only [h1, h2, h3, if_true, if_false] <;> rfl
theorem own_rng_ref {q : Int64} {a b c : Addr} : (own_rng q a b c).isRef = true := by
  unfold own_rng; by_cases h1 : q < (0 : Int64) <;> by_cases h2 : q < (4398046511104 : Int64) <;> by_cases h3 : q < (8796093022208 : Int64) <;> by_cases h4 : q < (13194139533312 : Int64) <;> simp only [h1, h2, h3, h4, if_true, if_false] <;> rfl
theorem own_num_ref {k : Int32} {a b c : Addr} : (own_num k a b c).isRef = true := by
  unfold own_num; by_cases h1 : k = (0 : Int32) <;> by_cases h2 : k = (1 : Int32) <;> by_cases h3 : k = (2 : Int32) <;> simp only [h1, h2, h3, if_true, if_false] <;> rfl
theorem own_ue (q : Int64) : ((q.toUInt64 >>> ((42 : Int32) &&& 0x3f).toInt64.toUInt64).toInt64).toInt = (q.toInt % 18446744073709551616) / 4398046511104 := by
  rw [c_lushr q (42 : Int32) 42 (by decide) (by decide)]; rfl
theorem own_u (q : Int64) : (0 : Int) ≤ ((q.toUInt64 >>> ((42 : Int32) &&& 0x3f).toInt64.toUInt64).toInt64).toInt := by rw [own_ue]; omega
theorem own_in3 {u : Int64} (h0 : (0 : Int) ≤ u.toInt) (h : u < (3 : Int32).toInt64) : ¬ u.toInt32 < 0 ∧ u.toInt32 < (3 : Int32) := by
  rw [Int64.lt_iff_toInt_lt] at h
  have z : (3 : Int32).toInt64.toInt = 3 := rfl
  have e : u.toInt32.toInt = u.toInt := XT.narrowInt ⟨by omega, by omega⟩
  have z0 : (0 : Int32).toInt = 0 := rfl
  have z3 : (3 : Int32).toInt = 3 := rfl
  rw [Int32.lt_iff_toInt_lt, Int32.lt_iff_toInt_lt, e, z0, z3]; omega
theorem own_is {u : Int64} {n : Int64} (h : u.toInt = n.toInt) : u = n := Int64.toInt_inj.mp h
theorem own_two {u : Int64} {a b c : Addr} (h0 : (0 : Int) ≤ u.toInt) (h : u < (3 : Int32).toInt64) (h1 : ¬ u = (0 : Int64)) (h2 : ¬ u = (1 : Int64)) : [(Value.ref a), (.ref b), (.ref c)].getD (u.toInt32).toNatClampNeg .null = .ref c := by
  rw [Int64.lt_iff_toInt_lt] at h
  have z : (3 : Int32).toInt64.toInt = 3 := rfl
  have k1 : u.toInt ≠ 0 := fun q => h1 (own_is q)
  have k2 : u.toInt ≠ 1 := fun q => h2 (own_is q)
  obtain rfl : u = (2 : Int64) := own_is (by show u.toInt = 2; omega)
  rfl
theorem own_l1 (q : Int64) {a b c : Addr} : own_of ((q.toUInt64 >>> ((42 : Int32) &&& 0x3f).toInt64.toUInt64).toInt64) a b c = own_rng q a b c := by
  have e := own_ue q
  have r := rng64 q
  generalize ((q.toUInt64 >>> ((42 : Int32) &&& 0x3f).toInt64.toUInt64).toInt64) = u at *
  have z0 : (0 : Int64).toInt = 0 := rfl
  have z1 : (1 : Int64).toInt = 1 := rfl
  have z3 : (3 : Int32).toInt64.toInt = 3 := rfl
  have y1 : (4398046511104 : Int64).toInt = 4398046511104 := rfl
  have y2 : (8796093022208 : Int64).toInt = 8796093022208 := rfl
  have y3 : (13194139533312 : Int64).toInt = 13194139533312 := rfl
  unfold own_of own_rng
  simp only [Int64.lt_iff_toInt_lt, ← Int64.toInt_inj, z0, z1, z3, y1, y2, y3]
  by_cases h1 : q.toInt < 0
  · rw [if_pos h1, if_neg (by omega)]
  · rw [if_neg h1]
    by_cases h2 : q.toInt < 4398046511104
    · rw [if_pos h2, if_pos (by omega), if_pos (by omega)]
    · rw [if_neg h2]
      by_cases h3 : q.toInt < 8796093022208
      · rw [if_pos h3, if_pos (by omega), if_neg (by omega), if_pos (by omega)]
      · rw [if_neg h3]
        by_cases h4 : q.toInt < 13194139533312
        · rw [if_pos h4, if_pos (by omega), if_neg (by omega), if_neg (by omega)]
        · rw [if_neg h4, if_neg (by omega)]
theorem own_l2 (p : Int32) (q : Int64) {a b c : Addr} : own_of ((((((p &&& (7 : Int32)) - (2 : Int32)).toInt64 <<< ((42 : Int32) &&& 0x3f).toInt64) ||| (q &&& (4398046511103 : Int64))).toUInt64 >>> ((42 : Int32) &&& 0x3f).toInt64.toUInt64).toInt64) a b c = own_num ((p &&& (7 : Int32)) - (2 : Int32)) a b c := by
  have m := c_mask p (7 : Int32) 3 (by decide) (by decide)
  have t2 : (2 : Int32).toInt = 2 := rfl
  have k0 : ((p &&& (7 : Int32)) - (2 : Int32)).toInt = p.toInt % 8 - 2 := by rw [XT.sub32 ⟨by rw [m, t2]; omega, by rw [m, t2]; omega⟩, m, t2]; rfl
  have b0 := c_maskL q (4398046511103 : Int64) 42 (by decide) (by decide)
  generalize ((p &&& (7 : Int32)) - (2 : Int32)) = k at *
  generalize (q &&& (4398046511103 : Int64)) = lo at *
  have s0 := c_lshl k.toInt64 (42 : Int32) 42 (by decide)
  rw [c_i2l] at s0
  have r1 := rng64 (k.toInt64 <<< ((42 : Int32) &&& 0x3f).toInt64)
  generalize (k.toInt64 <<< ((42 : Int32) &&& 0x3f).toInt64) = hi at *
  have pw : ((2 ^ 42 : Nat) : Int) = 4398046511104 := rfl
  rw [pw] at s0 b0
  have o0 := c_orL hi lo 42 (by decide) 4398046511104 pw.symm (by omega) (by omega) (by omega)
  have r2 := rng64 (hi ||| lo)
  have e := own_ue (hi ||| lo)
  generalize (((hi ||| lo).toUInt64 >>> ((42 : Int32) &&& 0x3f).toInt64.toUInt64).toInt64) = u at *
  generalize (hi ||| lo) = w at *
  have z0 : (0 : Int64).toInt = 0 := rfl
  have z1 : (1 : Int64).toInt = 1 := rfl
  have z3 : (3 : Int32).toInt64.toInt = 3 := rfl
  have y0 : (0 : Int32).toInt = 0 := rfl
  have y1 : (1 : Int32).toInt = 1 := rfl
  have y2 : (2 : Int32).toInt = 2 := rfl
  unfold own_of own_num
  simp only [Int64.lt_iff_toInt_lt, ← Int64.toInt_inj, ← Int32.toInt_inj, z0, z1, z3, y0, y1, y2]
  by_cases h1 : k.toInt = 0
  · rw [if_pos h1, if_pos (by omega), if_pos (by omega)]
  · rw [if_neg h1]
    by_cases h2 : k.toInt = 1
    · rw [if_pos h2, if_pos (by omega), if_neg (by omega), if_pos (by omega)]
    · rw [if_neg h2]
      by_cases h3 : k.toInt = 2
      · rw [if_pos h3, if_pos (by omega), if_neg (by omega), if_neg (by omega)]
      · rw [if_neg h3, if_neg (by omega)]

theorem d1_0 : decode prog_37_method_8_code 0 = .ok (.lload_n 0, 1) := by decide +kernel
theorem d1_1 : decode prog_37_method_8_code 1 = .ok (.bipush 42, 2) := by decide +kernel
theorem d1_3 : decode prog_37_method_8_code 3 = .ok (.lushr, 1) := by decide +kernel
theorem d1_4 : decode prog_37_method_8_code 4 = .ok (.lstore_n 2, 1) := by decide +kernel
theorem d1_5 : decode prog_37_method_8_code 5 = .ok (.lload_n 2, 1) := by decide +kernel
theorem d1_6 : decode prog_37_method_8_code 6 = .ok (.getstatic 52, 3) := by decide +kernel
theorem d1_9 : decode prog_37_method_8_code 9 = .ok (.arraylength, 1) := by decide +kernel
theorem d1_10 : decode prog_37_method_8_code 10 = .ok (.i2l, 1) := by decide +kernel
theorem d1_11 : decode prog_37_method_8_code 11 = .ok (.lcmp, 1) := by decide +kernel
theorem d1_12 : decode prog_37_method_8_code 12 = .ok (.ifCond .ge 12, 3) := by decide +kernel
theorem d1_15 : decode prog_37_method_8_code 15 = .ok (.getstatic 52, 3) := by decide +kernel
theorem d1_18 : decode prog_37_method_8_code 18 = .ok (.lload_n 2, 1) := by decide +kernel
theorem d1_19 : decode prog_37_method_8_code 19 = .ok (.l2i, 1) := by decide +kernel
theorem d1_20 : decode prog_37_method_8_code 20 = .ok (.aaload, 1) := by decide +kernel
theorem d1_21 : decode prog_37_method_8_code 21 = .ok (.goto 4, 3) := by decide +kernel
theorem d1_24 : decode prog_37_method_8_code 24 = .ok (.aconst_null, 1) := by decide +kernel
theorem d1_25 : decode prog_37_method_8_code 25 = .ok (.areturn, 1) := by decide +kernel
theorem pn_1 : plainName "com/example/fir/fir/core/Partition" = true := by first | (simp [plainName, overriddenIn]; done) | decide +kernel
theorem ef_rmO (m : MethodId) (x0 : Int64) : entryFrame m #[(.long x0)] 4 = mkF m 0 #[.val (.long x0), .second, .unset, .unset] [] := by first | (simp [entryFrame, mkF, argsToLocals, Value.category]; done) | rfl
def QO (Z : State) (q1 : Int64) (aALL : Addr) (kA : ClassId) (aDB : Addr) (aTX : Addr) (aUSER : Addr) (h0 : Heap) (n0 : Nat) (v : Option Value) (h : Heap) (L : List Loc) : Prop := v = some (own_of ((q1.toUInt64 >>> ((42 : Int32) &&& 0x3f).toInt64.toUInt64).toInt64) aDB aTX aUSER) ∧ Fr n0 L ∧ h = h0
set_option maxRecDepth 65536 in
set_option maxHeartbeats 40000000 in
theorem rmO (l : Launch) (Z : State) (a0 : Array Value) (hw : ∀ d ∈ tables_1, d.before a0 Z = true) (ws : List Jvm.Cond) (q1 : Int64) (aALL : Addr) (kA : ClassId) (aDB : Addr) (aTX : Addr) (aUSER : Addr) (h0 : Heap) (n0 : Nat) (Z0 : n0 ≤ h0.size) (S_ALL : Sta Z h0 "com/example/fir/fir/core/Partition" "ALL" "[Lcom/example/fir/fir/core/Partition;" (.ref aALL)) (V_ALL : Arv Z h0 aALL kA (.object "com/example/fir/fir/core/Partition") (3 : Int32) [(.ref aDB), (.ref aTX), (.ref aUSER)] .null) :
    MetFree l (⟨"com/example/fir/fir/core/Partition", "of", "(J)Lcom/example/fir/fir/core/Partition;"⟩ : MethodName) (head1 (Jvm.Cond.code (⟨"com/example/fir/fir/core/Partition", "of", "(J)Lcom/example/fir/fir/core/Partition;"⟩ : MethodName) prog_37_method_8_code 4 (some (.object "com/example/fir/fir/core/Partition")) :: ws) ({ frames := 0, cells := 0, slots := 0, locals := 0 } : Room)) (fun ar UU => ar = #[(.long q1)] ∧ Z.Warmed39 UU.vm ∧ UU.heap = h0) (fun _ _ _ _ _ => True) (fun _ UU oo UU' => ∃ vv LL, oo = .returned vv ∧ QO Z q1 aALL kA aDB aTX aUSER h0 n0 vv UU'.heap LL ∧ FrameEnd UU oo UU' LL ({ frames := 0, cells := 0, slots := 0, locals := 0 } : Room).cells ({ frames := 0, cells := 0, slots := 0, locals := 0 } : Room).slots) := by
  refine MetFree.of_bodySF (plainFor_of_name pn_1) hisR ?_
  intro p e s m args below meth c s₁ Bd hml0 hP hK
  obtain ⟨rfl, hZ, hh⟩ := hP
  have hx := Bd.exec
  have hby := Bd.bytes
  have hml : c.maxLocals = 4 := hml0
  have hown : s.vm.findClass "com/example/fir/fir/core/Partition" = some m.cls := findClass_of_methodNamed Bd.named
  have hnm := (name_of_methodNamed Bd.named Bd.method).1
  have X0 : Stand p l e ({ frames := 0, cells := 0, slots := 0, locals := 0 } : Room) s m #[(.long q1)] below meth c s₁ [] 0 0 := Stand.of_body Bd
  have e0 : s₁.heap = h0 := by rw [← hh, Bd.state]; rfl
  have N0 := Fr.nil n0
  have KC0 : Keep h0 h0 [] := Keep.refl h0 []
  have pre0 : ∀ tgt, Steps p.tables e below (s₁.setTop (mkF m 0 #[.val (.long q1), .second, .unset, .unset] [])) tgt → Steps p.tables e below (s₁.setTop (entryFrame m #[(.long q1)] 4)) tgt := fun tgt kk => castTop (ef_rmO m (q1)) kk
  have pre1 : ∀ tgt, Steps p.tables e below (s₁.setTop (mkF m 4 #[.val (.long q1), .second, .unset, .unset] [(.long ((q1.toUInt64 >>> ((42 : Int32) &&& 0x3f).toInt64.toUInt64).toInt64))])) tgt → Steps p.tables e below (s₁.setTop (entryFrame m #[(.long q1)] 4)) tgt := by
    intro tgt kk
    refine pre0 tgt ?_
    refine XS.lloadN X0.here hx rfl (hb hby d1_0) rfl ?_
    show Steps p.tables e below (s₁.setTop (mkF m 1 #[.val (.long q1), .second, .unset, .unset] [(.long q1)])) _
    refine XS.bipush X0.here hx rfl (hb hby d1_1) ?_
    show Steps p.tables e below (s₁.setTop (mkF m 3 #[.val (.long q1), .second, .unset, .unset] [(.int (42 : Int32)), (.long q1)])) _
    refine XS.lushr X0.here hx rfl (hb hby d1_3) rfl ?_
    show Steps p.tables e below (s₁.setTop (mkF m 4 #[.val (.long q1), .second, .unset, .unset] [(.long ((q1.toUInt64 >>> ((42 : Int32) &&& 0x3f).toInt64.toUInt64).toInt64))])) _
    exact kk
  have hu : (0 : Int) ≤ ((q1.toUInt64 >>> ((42 : Int32) &&& 0x3f).toInt64.toUInt64).toInt64).toInt := own_u q1
  obtain ⟨u, hue⟩ : ∃ z, z = ((q1.toUInt64 >>> ((42 : Int32) &&& 0x3f).toInt64.toUInt64).toInt64) := ⟨_, rfl⟩
  rw [← hue] at hu pre1
  have pre2 : ∀ tgt, Steps p.tables e below (s₁.setTop (mkF m 6 #[.val (.long q1), .second, .val (.long u), .second] [(.long u)])) tgt → Steps p.tables e below (s₁.setTop (entryFrame m #[(.long q1)] 4)) tgt := by
    intro tgt kk
    refine pre1 tgt ?_
    refine XS.lstoreN X0.here hx rfl (hb hby d1_4) rfl (l' := #[.val (.long q1), .second, .val (.long u), .second]) rfl ?_
    show Steps p.tables e below (s₁.setTop (mkF m 5 #[.val (.long q1), .second, .val (.long u), .second] [])) _
    refine XS.lloadN X0.here hx rfl (hb hby d1_5) rfl ?_
    show Steps p.tables e below (s₁.setTop (mkF m 6 #[.val (.long q1), .second, .val (.long u), .second] [(.long u)])) _
    exact kk
  obtain ⟨T3, X3, e3, st3⟩ := getS X0 hx hZ hown (host := "") (hw _ (List.mem_of_getElem? (i := 5) rfl)) Via.refl e0 S_ALL (g := (mkF m 6 #[.val (.long q1), .second, .val (.long u), .second] [(.long u)])) rfl (hb hby d1_6)
  have pre4 : ∀ tgt, Steps p.tables e below (T3.setTop (mkF m 9 #[.val (.long q1), .second, .val (.long u), .second] [(.ref aALL), (.long u)])) tgt → Steps p.tables e below (s₁.setTop (entryFrame m #[(.long q1)] 4)) tgt := by
    intro tgt kk
    refine pre2 tgt ?_
    refine st3 _ ?_
    show Steps p.tables e below (T3.setTop (mkF m 9 #[.val (.long q1), .second, .val (.long u), .second] [(.ref aALL), (.long u)])) _
    exact kk
  obtain ⟨cl5, Ar5, aq5, aS5, aN5, aH5, aG5⟩ := id V_ALL
  have pre6 : ∀ tgt, Steps p.tables e below (T3.setTop (mkF m 12 #[.val (.long q1), .second, .val (.long u), .second] [(.int (lcmpW u (3 : Int32).toInt64))])) tgt → Steps p.tables e below (s₁.setTop (entryFrame m #[(.long q1)] 4)) tgt := by
    intro tgt kk
    refine pre4 tgt ?_
    refine X3.arraylength hx (by rw [e3]; exact Ar5.1) (State.isArrayOf_alike hZ.alike Ar5.2.1) (g := (mkF m 9 #[.val (.long q1), .second, .val (.long u), .second] [(.ref aALL), (.long u)])) rfl rfl (hb hby d1_9) _ ?_
    rw [len_of aS5 aN5]
    show Steps p.tables e below (T3.setTop (mkF m 10 #[.val (.long q1), .second, .val (.long u), .second] [(.int (3 : Int32)), (.long u)])) _
    refine XS.i2l X3.here hx rfl (hb hby d1_10) rfl ?_
    show Steps p.tables e below (T3.setTop (mkF m 11 #[.val (.long q1), .second, .val (.long u), .second] [(.long (3 : Int32).toInt64), (.long u)])) _
    refine XS.lcmp X3.here hx rfl (hb hby d1_11) rfl ?_
    show Steps p.tables e below (T3.setTop (mkF m 12 #[.val (.long q1), .second, .val (.long u), .second] [(.int (lcmpW u (3 : Int32).toInt64))])) _
    exact kk
  by_cases hc12_7 : u < (3 : Int32).toInt64
  · skip
    have pre8 : ∀ tgt, Steps p.tables e below (T3.setTop (mkF m 15 #[.val (.long q1), .second, .val (.long u), .second] [])) tgt → Steps p.tables e below (s₁.setTop (entryFrame m #[(.long q1)] 4)) tgt := by
      intro tgt kk
      refine pre6 tgt ?_
      refine XS.ifNo X3.here hx rfl (hb hby d1_12) rfl (XT.ll_ge_f hc12_7) ?_
      show Steps p.tables e below (T3.setTop (mkF m 15 #[.val (.long q1), .second, .val (.long u), .second] [])) _
      exact kk
    obtain ⟨T9, X9, e9, st9⟩ := getS X3 hx hZ hown (host := "") (hw _ (List.mem_of_getElem? (i := 5) rfl)) Via.refl e3 S_ALL (g := (mkF m 15 #[.val (.long q1), .second, .val (.long u), .second] [])) rfl (hb hby d1_15)
    have pre10 : ∀ tgt, Steps p.tables e below (T9.setTop (mkF m 20 #[.val (.long q1), .second, .val (.long u), .second] [(.int u.toInt32), (.ref aALL)])) tgt → Steps p.tables e below (s₁.setTop (entryFrame m #[(.long q1)] 4)) tgt := by
      intro tgt kk
      refine pre8 tgt ?_
      refine st9 _ ?_
      show Steps p.tables e below (T9.setTop (mkF m 18 #[.val (.long q1), .second, .val (.long u), .second] [(.ref aALL)])) _
      refine XS.lloadN X9.here hx rfl (hb hby d1_18) rfl ?_
      show Steps p.tables e below (T9.setTop (mkF m 19 #[.val (.long q1), .second, .val (.long u), .second] [(.long u), (.ref aALL)])) _
      refine XS.l2i X9.here hx rfl (hb hby d1_19) rfl ?_
      show Steps p.tables e below (T9.setTop (mkF m 20 #[.val (.long q1), .second, .val (.long u), .second] [(.int u.toInt32), (.ref aALL)])) _
      exact kk
    by_cases hi11 : u = (0 : Int64)
    · skip
      obtain ⟨cl12, Ar12, aq12, aS12, aN12, aH12, aG12⟩ := id V_ALL
      have hin13 : ¬ (u.toInt32 < 0 ∨ cl12.slots.size ≤ (u.toInt32).toNatClampNeg) := inb_of aS12 (own_in3 hu hc12_7)
      have hat13 : cl12.slots[(u.toInt32).toNatClampNeg]? = some (.ref aDB) := Has.at aH12 hin13 (by subst hi11; rfl)
      obtain ⟨fs, hr, hrun, hended, hW, hsame⟩ := X9.leave (v := some (.ref aDB)) (fun h => by rw [Bd.returns] at h; cases h)
      refine ⟨_, _, pre10 _ ?_, hrun, hended, _, _, rfl, ?_, ⟨_, rfl⟩, hW, hsame.mono (by decide) (by decide)⟩
      · skip
        refine X9.aaload hx (j := u.toInt32) (v := (.ref aDB)) (by rw [e9]; exact Ar12.1) (State.isArrayOf_alike hZ.alike Ar12.2.1) rfl Ar12.2.2 hin13 hat13 (g := (mkF m 20 #[.val (.long q1), .second, .val (.long u), .second] [(.int u.toInt32), (.ref aALL)])) rfl rfl (hb hby d1_20) _ ?_
        show Steps p.tables e below (T9.setTop (mkF m 21 #[.val (.long q1), .second, .val (.long u), .second] [(.ref aDB)])) _
        refine XS.goto X9.here hx rfl (pc0 := 21) (pc' := 25) rfl (hb hby d1_21) (by decide) (by decide) ?_
        show Steps p.tables e below (T9.setTop (mkF m 25 #[.val (.long q1), .second, .val (.long u), .second] [(.ref aDB)])) _
        exact retOut X9 hx Bd.returns rfl (Or.inr (Or.inr (Or.inr (Or.inr ⟨rfl, rfl, rfl⟩)))) (hb hby d1_25) hr
      · show QO Z q1 aALL kA aDB aTX aUSER h0 n0 _ T9.heap _
        rw [e9]
        exact ⟨by unfold own_of; rw [← hue, if_pos hc12_7, if_pos hi11], N0, rfl⟩
    · skip
      by_cases hi14 : u = (1 : Int64)
      · skip
        obtain ⟨cl15, Ar15, aq15, aS15, aN15, aH15, aG15⟩ := id V_ALL
        have hin16 : ¬ (u.toInt32 < 0 ∨ cl15.slots.size ≤ (u.toInt32).toNatClampNeg) := inb_of aS15 (own_in3 hu hc12_7)
        have hat16 : cl15.slots[(u.toInt32).toNatClampNeg]? = some (.ref aTX) := Has.at aH15 hin16 (by subst hi14; rfl)
        obtain ⟨fs, hr, hrun, hended, hW, hsame⟩ := X9.leave (v := some (.ref aTX)) (fun h => by rw [Bd.returns] at h; cases h)
        refine ⟨_, _, pre10 _ ?_, hrun, hended, _, _, rfl, ?_, ⟨_, rfl⟩, hW, hsame.mono (by decide) (by decide)⟩
        · skip
          refine X9.aaload hx (j := u.toInt32) (v := (.ref aTX)) (by rw [e9]; exact Ar15.1) (State.isArrayOf_alike hZ.alike Ar15.2.1) rfl Ar15.2.2 hin16 hat16 (g := (mkF m 20 #[.val (.long q1), .second, .val (.long u), .second] [(.int u.toInt32), (.ref aALL)])) rfl rfl (hb hby d1_20) _ ?_
          show Steps p.tables e below (T9.setTop (mkF m 21 #[.val (.long q1), .second, .val (.long u), .second] [(.ref aTX)])) _
          refine XS.goto X9.here hx rfl (pc0 := 21) (pc' := 25) rfl (hb hby d1_21) (by decide) (by decide) ?_
          show Steps p.tables e below (T9.setTop (mkF m 25 #[.val (.long q1), .second, .val (.long u), .second] [(.ref aTX)])) _
          exact retOut X9 hx Bd.returns rfl (Or.inr (Or.inr (Or.inr (Or.inr ⟨rfl, rfl, rfl⟩)))) (hb hby d1_25) hr
        · show QO Z q1 aALL kA aDB aTX aUSER h0 n0 _ T9.heap _
          rw [e9]
          exact ⟨by unfold own_of; rw [← hue, if_pos hc12_7, if_neg hi11, if_pos hi14], N0, rfl⟩
      · skip
        obtain ⟨cl17, Ar17, aq17, aS17, aN17, aH17, aG17⟩ := id V_ALL
        have hin18 : ¬ (u.toInt32 < 0 ∨ cl17.slots.size ≤ (u.toInt32).toNatClampNeg) := inb_of aS17 (own_in3 hu hc12_7)
        have hat18 : cl17.slots[(u.toInt32).toNatClampNeg]? = some (.ref aUSER) := Has.at aH17 hin18 (own_two hu hc12_7 hi11 hi14)
        obtain ⟨fs, hr, hrun, hended, hW, hsame⟩ := X9.leave (v := some (.ref aUSER)) (fun h => by rw [Bd.returns] at h; cases h)
        refine ⟨_, _, pre10 _ ?_, hrun, hended, _, _, rfl, ?_, ⟨_, rfl⟩, hW, hsame.mono (by decide) (by decide)⟩
        · skip
          refine X9.aaload hx (j := u.toInt32) (v := (.ref aUSER)) (by rw [e9]; exact Ar17.1) (State.isArrayOf_alike hZ.alike Ar17.2.1) rfl Ar17.2.2 hin18 hat18 (g := (mkF m 20 #[.val (.long q1), .second, .val (.long u), .second] [(.int u.toInt32), (.ref aALL)])) rfl rfl (hb hby d1_20) _ ?_
          show Steps p.tables e below (T9.setTop (mkF m 21 #[.val (.long q1), .second, .val (.long u), .second] [(.ref aUSER)])) _
          refine XS.goto X9.here hx rfl (pc0 := 21) (pc' := 25) rfl (hb hby d1_21) (by decide) (by decide) ?_
          show Steps p.tables e below (T9.setTop (mkF m 25 #[.val (.long q1), .second, .val (.long u), .second] [(.ref aUSER)])) _
          exact retOut X9 hx Bd.returns rfl (Or.inr (Or.inr (Or.inr (Or.inr ⟨rfl, rfl, rfl⟩)))) (hb hby d1_25) hr
        · show QO Z q1 aALL kA aDB aTX aUSER h0 n0 _ T9.heap _
          rw [e9]
          exact ⟨by unfold own_of; rw [← hue, if_pos hc12_7, if_neg hi11, if_neg hi14], N0, rfl⟩
  · skip
    obtain ⟨fs, hr, hrun, hended, hW, hsame⟩ := X3.leave (v := some .null) (fun h => by rw [Bd.returns] at h; cases h)
    refine ⟨_, _, pre6 _ ?_, hrun, hended, _, _, rfl, ?_, ⟨_, rfl⟩, hW, hsame.mono (by decide) (by decide)⟩
    · skip
      refine XS.ifYes X3.here hx rfl (pc0 := 12) (pc' := 24) rfl (hb hby d1_12) rfl (XT.ll_ge_t hc12_7) (by decide) (by decide) ?_
      show Steps p.tables e below (T3.setTop (mkF m 24 #[.val (.long q1), .second, .val (.long u), .second] [])) _
      refine XS.aconstNull X3.here hx rfl (hb hby d1_24) ?_
      show Steps p.tables e below (T3.setTop (mkF m 25 #[.val (.long q1), .second, .val (.long u), .second] [.null])) _
      exact retOut X3 hx Bd.returns rfl (Or.inr (Or.inr (Or.inr (Or.inr ⟨rfl, rfl, rfl⟩)))) (hb hby d1_25) hr
    · show QO Z q1 aALL kA aDB aTX aUSER h0 n0 _ T3.heap _
      rw [e3]
      exact ⟨by unfold own_of; rw [← hue, if_neg hc12_7], N0, rfl⟩
theorem d2_0 : decode method_2_code 0 = .ok (.lload_n 0, 1) := by decide +kernel
theorem d2_1 : decode method_2_code 1 = .ok (.lconst 0, 1) := by decide +kernel
theorem d2_2 : decode method_2_code 2 = .ok (.lcmp, 1) := by decide +kernel
theorem d2_3 : decode method_2_code 3 = .ok (.ifCond .ge 5, 3) := by decide +kernel
theorem d2_6 : decode method_2_code 6 = .ok (.aconst_null, 1) := by decide +kernel
theorem d2_7 : decode method_2_code 7 = .ok (.areturn, 1) := by decide +kernel
theorem d2_8 : decode method_2_code 8 = .ok (.lload_n 0, 1) := by decide +kernel
theorem d2_9 : decode method_2_code 9 = .ok (.ldc2_w 7, 3) := by decide +kernel
theorem d2_12 : decode method_2_code 12 = .ok (.lcmp, 1) := by decide +kernel
theorem d2_13 : decode method_2_code 13 = .ok (.ifCond .ge 7, 3) := by decide +kernel
theorem d2_16 : decode method_2_code 16 = .ok (.getstatic 9, 3) := by decide +kernel
theorem d2_19 : decode method_2_code 19 = .ok (.areturn, 1) := by decide +kernel
theorem d2_20 : decode method_2_code 20 = .ok (.lload_n 0, 1) := by decide +kernel
theorem d2_21 : decode method_2_code 21 = .ok (.ldc2_w 15, 3) := by decide +kernel
theorem d2_24 : decode method_2_code 24 = .ok (.lcmp, 1) := by decide +kernel
theorem d2_25 : decode method_2_code 25 = .ok (.ifCond .ge 7, 3) := by decide +kernel
theorem d2_28 : decode method_2_code 28 = .ok (.getstatic 17, 3) := by decide +kernel
theorem d2_31 : decode method_2_code 31 = .ok (.areturn, 1) := by decide +kernel
theorem d2_32 : decode method_2_code 32 = .ok (.lload_n 0, 1) := by decide +kernel
theorem d2_33 : decode method_2_code 33 = .ok (.ldc2_w 20, 3) := by decide +kernel
theorem d2_36 : decode method_2_code 36 = .ok (.lcmp, 1) := by decide +kernel
theorem d2_37 : decode method_2_code 37 = .ok (.ifCond .ge 7, 3) := by decide +kernel
theorem d2_40 : decode method_2_code 40 = .ok (.getstatic 22, 3) := by decide +kernel
theorem d2_43 : decode method_2_code 43 = .ok (.areturn, 1) := by decide +kernel
theorem d2_44 : decode method_2_code 44 = .ok (.aconst_null, 1) := by decide +kernel
theorem d2_45 : decode method_2_code 45 = .ok (.areturn, 1) := by decide +kernel
theorem pn_2 : plainName "com/example/fir/fir/core/PartitionOfPinLaw" = true := by first | (simp [plainName, overriddenIn]; done) | decide +kernel
theorem ef_rmG (m : MethodId) (x0 : Int64) : entryFrame m #[(.long x0)] 2 = mkF m 0 #[.val (.long x0), .second] [] := by first | (simp [entryFrame, mkF, argsToLocals, Value.category]; done) | rfl
def QG (Z : State) (q1 : Int64) (aDB : Addr) (aTX : Addr) (aUSER : Addr) (h0 : Heap) (n0 : Nat) (v : Option Value) (h : Heap) (L : List Loc) : Prop := v = some (own_rng q1 aDB aTX aUSER) ∧ Fr n0 L ∧ h = h0
set_option maxRecDepth 65536 in
set_option maxHeartbeats 40000000 in
theorem rmG (l : Launch) (Z : State) (a0 : Array Value) (hw : ∀ d ∈ tables_1, d.before a0 Z = true) (ws : List Jvm.Cond) (q1 : Int64) (aDB : Addr) (aTX : Addr) (aUSER : Addr) (h0 : Heap) (n0 : Nat) (Z0 : n0 ≤ h0.size) (S_DB : Sta Z h0 "com/example/fir/fir/core/Partition" "DB" "Lcom/example/fir/fir/core/Partition;" (.ref aDB)) (S_TX : Sta Z h0 "com/example/fir/fir/core/Partition" "TX" "Lcom/example/fir/fir/core/Partition;" (.ref aTX)) (S_USER : Sta Z h0 "com/example/fir/fir/core/Partition" "USER" "Lcom/example/fir/fir/core/Partition;" (.ref aUSER)) :
    MetFree l (⟨"com/example/fir/fir/core/PartitionOfPinLaw", "byRange", "(J)Lcom/example/fir/fir/core/Partition;"⟩ : MethodName) (head1 (Jvm.Cond.code (⟨"com/example/fir/fir/core/PartitionOfPinLaw", "byRange", "(J)Lcom/example/fir/fir/core/Partition;"⟩ : MethodName) method_2_code 2 (some (.object "com/example/fir/fir/core/Partition")) :: ws) ({ frames := 0, cells := 0, slots := 0, locals := 0 } : Room)) (fun ar UU => ar = #[(.long q1)] ∧ Z.Warmed39 UU.vm ∧ UU.heap = h0) (fun _ _ _ _ _ => True) (fun _ UU oo UU' => ∃ vv LL, oo = .returned vv ∧ QG Z q1 aDB aTX aUSER h0 n0 vv UU'.heap LL ∧ FrameEnd UU oo UU' LL ({ frames := 0, cells := 0, slots := 0, locals := 0 } : Room).cells ({ frames := 0, cells := 0, slots := 0, locals := 0 } : Room).slots) := by
  refine MetFree.of_bodySF (plainFor_of_name pn_2) hisR ?_
  intro p e s m args below meth c s₁ Bd hml0 hP hK
  obtain ⟨rfl, hZ, hh⟩ := hP
  have hx := Bd.exec
  have hby := Bd.bytes
  have hml : c.maxLocals = 2 := hml0
  have hown : s.vm.findClass "com/example/fir/fir/core/PartitionOfPinLaw" = some m.cls := findClass_of_methodNamed Bd.named
  have hnm := (name_of_methodNamed Bd.named Bd.method).1
  have X0 : Stand p l e ({ frames := 0, cells := 0, slots := 0, locals := 0 } : Room) s m #[(.long q1)] below meth c s₁ [] 0 0 := Stand.of_body Bd
  have e0 : s₁.heap = h0 := by rw [← hh, Bd.state]; rfl
  have N0 := Fr.nil n0
  have KC0 : Keep h0 h0 [] := Keep.refl h0 []
  have pre0 : ∀ tgt, Steps p.tables e below (s₁.setTop (mkF m 0 #[.val (.long q1), .second] [])) tgt → Steps p.tables e below (s₁.setTop (entryFrame m #[(.long q1)] 2)) tgt := fun tgt kk => castTop (ef_rmG m (q1)) kk
  have pre1 : ∀ tgt, Steps p.tables e below (s₁.setTop (mkF m 3 #[.val (.long q1), .second] [(.int (lcmpW q1 (0 : Int64)))])) tgt → Steps p.tables e below (s₁.setTop (entryFrame m #[(.long q1)] 2)) tgt := by
    intro tgt kk
    refine pre0 tgt ?_
    refine XS.lloadN X0.here hx rfl (hb hby d2_0) rfl ?_
    show Steps p.tables e below (s₁.setTop (mkF m 1 #[.val (.long q1), .second] [(.long q1)])) _
    refine XS.lconst X0.here hx rfl (hb hby d2_1) ?_
    show Steps p.tables e below (s₁.setTop (mkF m 2 #[.val (.long q1), .second] [(.long (0 : Int64)), (.long q1)])) _
    refine XS.lcmp X0.here hx rfl (hb hby d2_2) rfl ?_
    show Steps p.tables e below (s₁.setTop (mkF m 3 #[.val (.long q1), .second] [(.int (lcmpW q1 (0 : Int64)))])) _
    exact kk
  by_cases hc3_2 : q1 < (0 : Int64)
  · skip
    obtain ⟨fs, hr, hrun, hended, hW, hsame⟩ := X0.leave (v := some .null) (fun h => by rw [Bd.returns] at h; cases h)
    refine ⟨_, _, pre1 _ ?_, hrun, hended, _, _, rfl, ?_, ⟨_, rfl⟩, hW, hsame.mono (by decide) (by decide)⟩
    · skip
      refine XS.ifNo X0.here hx rfl (hb hby d2_3) rfl (XT.ll_ge_f hc3_2) ?_
      show Steps p.tables e below (s₁.setTop (mkF m 6 #[.val (.long q1), .second] [])) _
      refine XS.aconstNull X0.here hx rfl (hb hby d2_6) ?_
      show Steps p.tables e below (s₁.setTop (mkF m 7 #[.val (.long q1), .second] [.null])) _
      exact retOut X0 hx Bd.returns rfl (Or.inr (Or.inr (Or.inr (Or.inr ⟨rfl, rfl, rfl⟩)))) (hb hby d2_7) hr
    · show QG Z q1 aDB aTX aUSER h0 n0 _ s₁.heap _
      rw [e0]
      exact ⟨by unfold own_rng; rw [if_pos hc3_2], N0, rfl⟩
  · skip
    have pre3 : ∀ tgt, Steps p.tables e below (s₁.setTop (mkF m 13 #[.val (.long q1), .second] [(.int (lcmpW q1 (4398046511104 : Int64)))])) tgt → Steps p.tables e below (s₁.setTop (entryFrame m #[(.long q1)] 2)) tgt := by
      intro tgt kk
      refine pre1 tgt ?_
      refine XS.ifYes X0.here hx rfl (pc0 := 3) (pc' := 8) rfl (hb hby d2_3) rfl (XT.ll_ge_t hc3_2) (by decide) (by decide) ?_
      show Steps p.tables e below (s₁.setTop (mkF m 8 #[.val (.long q1), .second] [])) _
      refine XS.lloadN X0.here hx rfl (hb hby d2_8) rfl ?_
      show Steps p.tables e below (s₁.setTop (mkF m 9 #[.val (.long q1), .second] [(.long q1)])) _
      refine X0.ldc2Long hx hown (mvT hZ (hw _ (List.mem_of_getElem? (i := 12) rfl))) (g := (mkF m 9 #[.val (.long q1), .second] [(.long q1)])) rfl (hb hby d2_9) _ ?_
      show Steps p.tables e below (s₁.setTop (mkF m 12 #[.val (.long q1), .second] [(.long (4398046511104 : Int64)), (.long q1)])) _
      refine XS.lcmp X0.here hx rfl (hb hby d2_12) rfl ?_
      show Steps p.tables e below (s₁.setTop (mkF m 13 #[.val (.long q1), .second] [(.int (lcmpW q1 (4398046511104 : Int64)))])) _
      exact kk
    by_cases hc13_4 : q1 < (4398046511104 : Int64)
    · skip
      have pre5 : ∀ tgt, Steps p.tables e below (s₁.setTop (mkF m 16 #[.val (.long q1), .second] [])) tgt → Steps p.tables e below (s₁.setTop (entryFrame m #[(.long q1)] 2)) tgt := by
        intro tgt kk
        refine pre3 tgt ?_
        refine XS.ifNo X0.here hx rfl (hb hby d2_13) rfl (XT.ll_ge_f hc13_4) ?_
        show Steps p.tables e below (s₁.setTop (mkF m 16 #[.val (.long q1), .second] [])) _
        exact kk
      obtain ⟨T6, X6, e6, st6⟩ := getS X0 hx hZ hown (host := "") (hw _ (List.mem_of_getElem? (i := 13) rfl)) Via.refl e0 S_DB (g := (mkF m 16 #[.val (.long q1), .second] [])) rfl (hb hby d2_16)
      obtain ⟨fs, hr, hrun, hended, hW, hsame⟩ := X6.leave (v := some (.ref aDB)) (fun h => by rw [Bd.returns] at h; cases h)
      refine ⟨_, _, pre5 _ ?_, hrun, hended, _, _, rfl, ?_, ⟨_, rfl⟩, hW, hsame.mono (by decide) (by decide)⟩
      · skip
        refine st6 _ ?_
        show Steps p.tables e below (T6.setTop (mkF m 19 #[.val (.long q1), .second] [(.ref aDB)])) _
        exact retOut X6 hx Bd.returns rfl (Or.inr (Or.inr (Or.inr (Or.inr ⟨rfl, rfl, rfl⟩)))) (hb hby d2_19) hr
      · show QG Z q1 aDB aTX aUSER h0 n0 _ T6.heap _
        rw [e6]
        exact ⟨by unfold own_rng; rw [if_neg hc3_2, if_pos hc13_4], N0, rfl⟩
    · skip
      have pre7 : ∀ tgt, Steps p.tables e below (s₁.setTop (mkF m 25 #[.val (.long q1), .second] [(.int (lcmpW q1 (8796093022208 : Int64)))])) tgt → Steps p.tables e below (s₁.setTop (entryFrame m #[(.long q1)] 2)) tgt := by
        intro tgt kk
        refine pre3 tgt ?_
        refine XS.ifYes X0.here hx rfl (pc0 := 13) (pc' := 20) rfl (hb hby d2_13) rfl (XT.ll_ge_t hc13_4) (by decide) (by decide) ?_
        show Steps p.tables e below (s₁.setTop (mkF m 20 #[.val (.long q1), .second] [])) _
        refine XS.lloadN X0.here hx rfl (hb hby d2_20) rfl ?_
        show Steps p.tables e below (s₁.setTop (mkF m 21 #[.val (.long q1), .second] [(.long q1)])) _
        refine X0.ldc2Long hx hown (mvT hZ (hw _ (List.mem_of_getElem? (i := 17) rfl))) (g := (mkF m 21 #[.val (.long q1), .second] [(.long q1)])) rfl (hb hby d2_21) _ ?_
        show Steps p.tables e below (s₁.setTop (mkF m 24 #[.val (.long q1), .second] [(.long (8796093022208 : Int64)), (.long q1)])) _
        refine XS.lcmp X0.here hx rfl (hb hby d2_24) rfl ?_
        show Steps p.tables e below (s₁.setTop (mkF m 25 #[.val (.long q1), .second] [(.int (lcmpW q1 (8796093022208 : Int64)))])) _
        exact kk
      by_cases hc25_8 : q1 < (8796093022208 : Int64)
      · skip
        have pre9 : ∀ tgt, Steps p.tables e below (s₁.setTop (mkF m 28 #[.val (.long q1), .second] [])) tgt → Steps p.tables e below (s₁.setTop (entryFrame m #[(.long q1)] 2)) tgt := by
          intro tgt kk
          refine pre7 tgt ?_
          refine XS.ifNo X0.here hx rfl (hb hby d2_25) rfl (XT.ll_ge_f hc25_8) ?_
          show Steps p.tables e below (s₁.setTop (mkF m 28 #[.val (.long q1), .second] [])) _
          exact kk
        obtain ⟨T10, X10, e10, st10⟩ := getS X0 hx hZ hown (host := "") (hw _ (List.mem_of_getElem? (i := 20) rfl)) Via.refl e0 S_TX (g := (mkF m 28 #[.val (.long q1), .second] [])) rfl (hb hby d2_28)
        obtain ⟨fs, hr, hrun, hended, hW, hsame⟩ := X10.leave (v := some (.ref aTX)) (fun h => by rw [Bd.returns] at h; cases h)
        refine ⟨_, _, pre9 _ ?_, hrun, hended, _, _, rfl, ?_, ⟨_, rfl⟩, hW, hsame.mono (by decide) (by decide)⟩
        · skip
          refine st10 _ ?_
          show Steps p.tables e below (T10.setTop (mkF m 31 #[.val (.long q1), .second] [(.ref aTX)])) _
          exact retOut X10 hx Bd.returns rfl (Or.inr (Or.inr (Or.inr (Or.inr ⟨rfl, rfl, rfl⟩)))) (hb hby d2_31) hr
        · show QG Z q1 aDB aTX aUSER h0 n0 _ T10.heap _
          rw [e10]
          exact ⟨by unfold own_rng; rw [if_neg hc3_2, if_neg hc13_4, if_pos hc25_8], N0, rfl⟩
      · skip
        have pre11 : ∀ tgt, Steps p.tables e below (s₁.setTop (mkF m 37 #[.val (.long q1), .second] [(.int (lcmpW q1 (13194139533312 : Int64)))])) tgt → Steps p.tables e below (s₁.setTop (entryFrame m #[(.long q1)] 2)) tgt := by
          intro tgt kk
          refine pre7 tgt ?_
          refine XS.ifYes X0.here hx rfl (pc0 := 25) (pc' := 32) rfl (hb hby d2_25) rfl (XT.ll_ge_t hc25_8) (by decide) (by decide) ?_
          show Steps p.tables e below (s₁.setTop (mkF m 32 #[.val (.long q1), .second] [])) _
          refine XS.lloadN X0.here hx rfl (hb hby d2_32) rfl ?_
          show Steps p.tables e below (s₁.setTop (mkF m 33 #[.val (.long q1), .second] [(.long q1)])) _
          refine X0.ldc2Long hx hown (mvT hZ (hw _ (List.mem_of_getElem? (i := 18) rfl))) (g := (mkF m 33 #[.val (.long q1), .second] [(.long q1)])) rfl (hb hby d2_33) _ ?_
          show Steps p.tables e below (s₁.setTop (mkF m 36 #[.val (.long q1), .second] [(.long (13194139533312 : Int64)), (.long q1)])) _
          refine XS.lcmp X0.here hx rfl (hb hby d2_36) rfl ?_
          show Steps p.tables e below (s₁.setTop (mkF m 37 #[.val (.long q1), .second] [(.int (lcmpW q1 (13194139533312 : Int64)))])) _
          exact kk
        by_cases hc37_12 : q1 < (13194139533312 : Int64)
        · skip
          have pre13 : ∀ tgt, Steps p.tables e below (s₁.setTop (mkF m 40 #[.val (.long q1), .second] [])) tgt → Steps p.tables e below (s₁.setTop (entryFrame m #[(.long q1)] 2)) tgt := by
            intro tgt kk
            refine pre11 tgt ?_
            refine XS.ifNo X0.here hx rfl (hb hby d2_37) rfl (XT.ll_ge_f hc37_12) ?_
            show Steps p.tables e below (s₁.setTop (mkF m 40 #[.val (.long q1), .second] [])) _
            exact kk
          obtain ⟨T14, X14, e14, st14⟩ := getS X0 hx hZ hown (host := "") (hw _ (List.mem_of_getElem? (i := 22) rfl)) Via.refl e0 S_USER (g := (mkF m 40 #[.val (.long q1), .second] [])) rfl (hb hby d2_40)
          obtain ⟨fs, hr, hrun, hended, hW, hsame⟩ := X14.leave (v := some (.ref aUSER)) (fun h => by rw [Bd.returns] at h; cases h)
          refine ⟨_, _, pre13 _ ?_, hrun, hended, _, _, rfl, ?_, ⟨_, rfl⟩, hW, hsame.mono (by decide) (by decide)⟩
          · skip
            refine st14 _ ?_
            show Steps p.tables e below (T14.setTop (mkF m 43 #[.val (.long q1), .second] [(.ref aUSER)])) _
            exact retOut X14 hx Bd.returns rfl (Or.inr (Or.inr (Or.inr (Or.inr ⟨rfl, rfl, rfl⟩)))) (hb hby d2_43) hr
          · show QG Z q1 aDB aTX aUSER h0 n0 _ T14.heap _
            rw [e14]
            exact ⟨by unfold own_rng; rw [if_neg hc3_2, if_neg hc13_4, if_neg hc25_8, if_pos hc37_12], N0, rfl⟩
        · skip
          obtain ⟨fs, hr, hrun, hended, hW, hsame⟩ := X0.leave (v := some .null) (fun h => by rw [Bd.returns] at h; cases h)
          refine ⟨_, _, pre11 _ ?_, hrun, hended, _, _, rfl, ?_, ⟨_, rfl⟩, hW, hsame.mono (by decide) (by decide)⟩
          · skip
            refine XS.ifYes X0.here hx rfl (pc0 := 37) (pc' := 44) rfl (hb hby d2_37) rfl (XT.ll_ge_t hc37_12) (by decide) (by decide) ?_
            show Steps p.tables e below (s₁.setTop (mkF m 44 #[.val (.long q1), .second] [])) _
            refine XS.aconstNull X0.here hx rfl (hb hby d2_44) ?_
            show Steps p.tables e below (s₁.setTop (mkF m 45 #[.val (.long q1), .second] [.null])) _
            exact retOut X0 hx Bd.returns rfl (Or.inr (Or.inr (Or.inr (Or.inr ⟨rfl, rfl, rfl⟩)))) (hb hby d2_45) hr
          · show QG Z q1 aDB aTX aUSER h0 n0 _ s₁.heap _
            rw [e0]
            exact ⟨by unfold own_rng; rw [if_neg hc3_2, if_neg hc13_4, if_neg hc25_8, if_neg hc37_12], N0, rfl⟩
theorem d3_0 : decode method_3_code 0 = .ok (.iload_n 0, 1) := by decide +kernel
theorem d3_1 : decode method_3_code 1 = .ok (.ifCond .ne 7, 3) := by decide +kernel
theorem d3_4 : decode method_3_code 4 = .ok (.getstatic 9, 3) := by decide +kernel
theorem d3_7 : decode method_3_code 7 = .ok (.areturn, 1) := by decide +kernel
theorem d3_8 : decode method_3_code 8 = .ok (.iload_n 0, 1) := by decide +kernel
theorem d3_9 : decode method_3_code 9 = .ok (.iconst 1, 1) := by decide +kernel
theorem d3_10 : decode method_3_code 10 = .ok (.if_icmp .ne 7, 3) := by decide +kernel
theorem d3_13 : decode method_3_code 13 = .ok (.getstatic 17, 3) := by decide +kernel
theorem d3_16 : decode method_3_code 16 = .ok (.areturn, 1) := by decide +kernel
theorem d3_17 : decode method_3_code 17 = .ok (.iload_n 0, 1) := by decide +kernel
theorem d3_18 : decode method_3_code 18 = .ok (.iconst 2, 1) := by decide +kernel
theorem d3_19 : decode method_3_code 19 = .ok (.if_icmp .ne 7, 3) := by decide +kernel
theorem d3_22 : decode method_3_code 22 = .ok (.getstatic 22, 3) := by decide +kernel
theorem d3_25 : decode method_3_code 25 = .ok (.areturn, 1) := by decide +kernel
theorem d3_26 : decode method_3_code 26 = .ok (.aconst_null, 1) := by decide +kernel
theorem d3_27 : decode method_3_code 27 = .ok (.areturn, 1) := by decide +kernel
theorem pn_3 : plainName "com/example/fir/fir/core/PartitionOfPinLaw" = true := by first | (simp [plainName, overriddenIn]; done) | decide +kernel
theorem ef_rmN (m : MethodId) (x0 : Int32) : entryFrame m #[(.int x0)] 1 = mkF m 0 #[.val (.int x0)] [] := by first | (simp [entryFrame, mkF, argsToLocals, Value.category]; done) | rfl
def QN (Z : State) (k : Int32) (aDB : Addr) (aTX : Addr) (aUSER : Addr) (h0 : Heap) (n0 : Nat) (v : Option Value) (h : Heap) (L : List Loc) : Prop := v = some (own_num k aDB aTX aUSER) ∧ Fr n0 L ∧ h = h0
set_option maxRecDepth 65536 in
set_option maxHeartbeats 40000000 in
theorem rmN (l : Launch) (Z : State) (a0 : Array Value) (hw : ∀ d ∈ tables_1, d.before a0 Z = true) (ws : List Jvm.Cond) (k : Int32) (aDB : Addr) (aTX : Addr) (aUSER : Addr) (h0 : Heap) (n0 : Nat) (Z0 : n0 ≤ h0.size) (S_DB : Sta Z h0 "com/example/fir/fir/core/Partition" "DB" "Lcom/example/fir/fir/core/Partition;" (.ref aDB)) (S_TX : Sta Z h0 "com/example/fir/fir/core/Partition" "TX" "Lcom/example/fir/fir/core/Partition;" (.ref aTX)) (S_USER : Sta Z h0 "com/example/fir/fir/core/Partition" "USER" "Lcom/example/fir/fir/core/Partition;" (.ref aUSER)) :
    MetFree l (⟨"com/example/fir/fir/core/PartitionOfPinLaw", "byNumber", "(I)Lcom/example/fir/fir/core/Partition;"⟩ : MethodName) (head1 (Jvm.Cond.code (⟨"com/example/fir/fir/core/PartitionOfPinLaw", "byNumber", "(I)Lcom/example/fir/fir/core/Partition;"⟩ : MethodName) method_3_code 1 (some (.object "com/example/fir/fir/core/Partition")) :: ws) ({ frames := 0, cells := 0, slots := 0, locals := 0 } : Room)) (fun ar UU => ar = #[(.int k)] ∧ Z.Warmed39 UU.vm ∧ UU.heap = h0) (fun _ _ _ _ _ => True) (fun _ UU oo UU' => ∃ vv LL, oo = .returned vv ∧ QN Z k aDB aTX aUSER h0 n0 vv UU'.heap LL ∧ FrameEnd UU oo UU' LL ({ frames := 0, cells := 0, slots := 0, locals := 0 } : Room).cells ({ frames := 0, cells := 0, slots := 0, locals := 0 } : Room).slots) := by
  refine MetFree.of_bodySF (plainFor_of_name pn_3) hisR ?_
  intro p e s m args below meth c s₁ Bd hml0 hP hK
  obtain ⟨rfl, hZ, hh⟩ := hP
  have hx := Bd.exec
  have hby := Bd.bytes
  have hml : c.maxLocals = 1 := hml0
  have hown : s.vm.findClass "com/example/fir/fir/core/PartitionOfPinLaw" = some m.cls := findClass_of_methodNamed Bd.named
  have hnm := (name_of_methodNamed Bd.named Bd.method).1
  have X0 : Stand p l e ({ frames := 0, cells := 0, slots := 0, locals := 0 } : Room) s m #[(.int k)] below meth c s₁ [] 0 0 := Stand.of_body Bd
  have e0 : s₁.heap = h0 := by rw [← hh, Bd.state]; rfl
  have N0 := Fr.nil n0
  have KC0 : Keep h0 h0 [] := Keep.refl h0 []
  have pre0 : ∀ tgt, Steps p.tables e below (s₁.setTop (mkF m 0 #[.val (.int k)] [])) tgt → Steps p.tables e below (s₁.setTop (entryFrame m #[(.int k)] 1)) tgt := fun tgt kk => castTop (ef_rmN m (k)) kk
  have pre1 : ∀ tgt, Steps p.tables e below (s₁.setTop (mkF m 1 #[.val (.int k)] [(.int k)])) tgt → Steps p.tables e below (s₁.setTop (entryFrame m #[(.int k)] 1)) tgt := by
    intro tgt kk
    refine pre0 tgt ?_
    refine XS.iloadN X0.here hx rfl (hb hby d3_0) rfl ?_
    show Steps p.tables e below (s₁.setTop (mkF m 1 #[.val (.int k)] [(.int k)])) _
    exact kk
  by_cases hc1_2 : k = (0 : Int32)
  · skip
    have pre3 : ∀ tgt, Steps p.tables e below (s₁.setTop (mkF m 4 #[.val (.int k)] [])) tgt → Steps p.tables e below (s₁.setTop (entryFrame m #[(.int k)] 1)) tgt := by
      intro tgt kk
      refine pre1 tgt ?_
      refine XS.ifNo X0.here hx rfl (hb hby d3_1) rfl (XT.i0_ne_f hc1_2) ?_
      show Steps p.tables e below (s₁.setTop (mkF m 4 #[.val (.int k)] [])) _
      exact kk
    obtain ⟨T4, X4, e4, st4⟩ := getS X0 hx hZ hown (host := "") (hw _ (List.mem_of_getElem? (i := 13) rfl)) Via.refl e0 S_DB (g := (mkF m 4 #[.val (.int k)] [])) rfl (hb hby d3_4)
    obtain ⟨fs, hr, hrun, hended, hW, hsame⟩ := X4.leave (v := some (.ref aDB)) (fun h => by rw [Bd.returns] at h; cases h)
    refine ⟨_, _, pre3 _ ?_, hrun, hended, _, _, rfl, ?_, ⟨_, rfl⟩, hW, hsame.mono (by decide) (by decide)⟩
    · skip
      refine st4 _ ?_
      show Steps p.tables e below (T4.setTop (mkF m 7 #[.val (.int k)] [(.ref aDB)])) _
      exact retOut X4 hx Bd.returns rfl (Or.inr (Or.inr (Or.inr (Or.inr ⟨rfl, rfl, rfl⟩)))) (hb hby d3_7) hr
    · show QN Z k aDB aTX aUSER h0 n0 _ T4.heap _
      rw [e4]
      exact ⟨by unfold own_num; rw [if_pos hc1_2], N0, rfl⟩
  · skip
    have pre5 : ∀ tgt, Steps p.tables e below (s₁.setTop (mkF m 10 #[.val (.int k)] [(.int (1 : Int32)), (.int k)])) tgt → Steps p.tables e below (s₁.setTop (entryFrame m #[(.int k)] 1)) tgt := by
      intro tgt kk
      refine pre1 tgt ?_
      refine XS.ifYes X0.here hx rfl (pc0 := 1) (pc' := 8) rfl (hb hby d3_1) rfl (XT.i0_ne_t hc1_2) (by decide) (by decide) ?_
      show Steps p.tables e below (s₁.setTop (mkF m 8 #[.val (.int k)] [])) _
      refine XS.iloadN X0.here hx rfl (hb hby d3_8) rfl ?_
      show Steps p.tables e below (s₁.setTop (mkF m 9 #[.val (.int k)] [(.int k)])) _
      refine XS.iconst X0.here hx rfl (hb hby d3_9) ?_
      show Steps p.tables e below (s₁.setTop (mkF m 10 #[.val (.int k)] [(.int (1 : Int32)), (.int k)])) _
      exact kk
    by_cases hc10_6 : k = (1 : Int32)
    · skip
      have pre7 : ∀ tgt, Steps p.tables e below (s₁.setTop (mkF m 13 #[.val (.int k)] [])) tgt → Steps p.tables e below (s₁.setTop (entryFrame m #[(.int k)] 1)) tgt := by
        intro tgt kk
        refine pre5 tgt ?_
        refine XS.icmpNo X0.here hx rfl (hb hby d3_10) rfl (XT.ii_ne_f hc10_6) ?_
        show Steps p.tables e below (s₁.setTop (mkF m 13 #[.val (.int k)] [])) _
        exact kk
      obtain ⟨T8, X8, e8, st8⟩ := getS X0 hx hZ hown (host := "") (hw _ (List.mem_of_getElem? (i := 20) rfl)) Via.refl e0 S_TX (g := (mkF m 13 #[.val (.int k)] [])) rfl (hb hby d3_13)
      obtain ⟨fs, hr, hrun, hended, hW, hsame⟩ := X8.leave (v := some (.ref aTX)) (fun h => by rw [Bd.returns] at h; cases h)
      refine ⟨_, _, pre7 _ ?_, hrun, hended, _, _, rfl, ?_, ⟨_, rfl⟩, hW, hsame.mono (by decide) (by decide)⟩
      · skip
        refine st8 _ ?_
        show Steps p.tables e below (T8.setTop (mkF m 16 #[.val (.int k)] [(.ref aTX)])) _
        exact retOut X8 hx Bd.returns rfl (Or.inr (Or.inr (Or.inr (Or.inr ⟨rfl, rfl, rfl⟩)))) (hb hby d3_16) hr
      · show QN Z k aDB aTX aUSER h0 n0 _ T8.heap _
        rw [e8]
        exact ⟨by unfold own_num; rw [if_neg hc1_2, if_pos hc10_6], N0, rfl⟩
    · skip
      have pre9 : ∀ tgt, Steps p.tables e below (s₁.setTop (mkF m 19 #[.val (.int k)] [(.int (2 : Int32)), (.int k)])) tgt → Steps p.tables e below (s₁.setTop (entryFrame m #[(.int k)] 1)) tgt := by
        intro tgt kk
        refine pre5 tgt ?_
        refine XS.icmpYes X0.here hx rfl (pc0 := 10) (pc' := 17) rfl (hb hby d3_10) rfl (XT.ii_ne_t hc10_6) (by decide) (by decide) ?_
        show Steps p.tables e below (s₁.setTop (mkF m 17 #[.val (.int k)] [])) _
        refine XS.iloadN X0.here hx rfl (hb hby d3_17) rfl ?_
        show Steps p.tables e below (s₁.setTop (mkF m 18 #[.val (.int k)] [(.int k)])) _
        refine XS.iconst X0.here hx rfl (hb hby d3_18) ?_
        show Steps p.tables e below (s₁.setTop (mkF m 19 #[.val (.int k)] [(.int (2 : Int32)), (.int k)])) _
        exact kk
      by_cases hc19_10 : k = (2 : Int32)
      · skip
        have pre11 : ∀ tgt, Steps p.tables e below (s₁.setTop (mkF m 22 #[.val (.int k)] [])) tgt → Steps p.tables e below (s₁.setTop (entryFrame m #[(.int k)] 1)) tgt := by
          intro tgt kk
          refine pre9 tgt ?_
          refine XS.icmpNo X0.here hx rfl (hb hby d3_19) rfl (XT.ii_ne_f hc19_10) ?_
          show Steps p.tables e below (s₁.setTop (mkF m 22 #[.val (.int k)] [])) _
          exact kk
        obtain ⟨T12, X12, e12, st12⟩ := getS X0 hx hZ hown (host := "") (hw _ (List.mem_of_getElem? (i := 22) rfl)) Via.refl e0 S_USER (g := (mkF m 22 #[.val (.int k)] [])) rfl (hb hby d3_22)
        obtain ⟨fs, hr, hrun, hended, hW, hsame⟩ := X12.leave (v := some (.ref aUSER)) (fun h => by rw [Bd.returns] at h; cases h)
        refine ⟨_, _, pre11 _ ?_, hrun, hended, _, _, rfl, ?_, ⟨_, rfl⟩, hW, hsame.mono (by decide) (by decide)⟩
        · skip
          refine st12 _ ?_
          show Steps p.tables e below (T12.setTop (mkF m 25 #[.val (.int k)] [(.ref aUSER)])) _
          exact retOut X12 hx Bd.returns rfl (Or.inr (Or.inr (Or.inr (Or.inr ⟨rfl, rfl, rfl⟩)))) (hb hby d3_25) hr
        · show QN Z k aDB aTX aUSER h0 n0 _ T12.heap _
          rw [e12]
          exact ⟨by unfold own_num; rw [if_neg hc1_2, if_neg hc10_6, if_pos hc19_10], N0, rfl⟩
      · skip
        obtain ⟨fs, hr, hrun, hended, hW, hsame⟩ := X0.leave (v := some .null) (fun h => by rw [Bd.returns] at h; cases h)
        refine ⟨_, _, pre9 _ ?_, hrun, hended, _, _, rfl, ?_, ⟨_, rfl⟩, hW, hsame.mono (by decide) (by decide)⟩
        · skip
          refine XS.icmpYes X0.here hx rfl (pc0 := 19) (pc' := 26) rfl (hb hby d3_19) rfl (XT.ii_ne_t hc19_10) (by decide) (by decide) ?_
          show Steps p.tables e below (s₁.setTop (mkF m 26 #[.val (.int k)] [])) _
          refine XS.aconstNull X0.here hx rfl (hb hby d3_26) ?_
          show Steps p.tables e below (s₁.setTop (mkF m 27 #[.val (.int k)] [.null])) _
          exact retOut X0 hx Bd.returns rfl (Or.inr (Or.inr (Or.inr (Or.inr ⟨rfl, rfl, rfl⟩)))) (hb hby d3_27) hr
        · show QN Z k aDB aTX aUSER h0 n0 _ s₁.heap _
          rw [e0]
          exact ⟨by unfold own_num; rw [if_neg hc1_2, if_neg hc10_6, if_neg hc19_10], N0, rfl⟩
theorem pn_0 : plainName "com/example/fir/fir/core/PartitionOfPinLaw" = true := by first | (simp [plainName, overriddenIn]; done) | decide +kernel
theorem pd__J_Lcom_example_fir_fir_core_Partition_ : parseMethodDescriptor "(J)Lcom/example/fir/fir/core/Partition;" = some ⟨[.long], some (.object "com/example/fir/fir/core/Partition")⟩ := by decide +kernel
theorem pd__I_Lcom_example_fir_fir_core_Partition_ : parseMethodDescriptor "(I)Lcom/example/fir/fir/core/Partition;" = some ⟨[.int], some (.object "com/example/fir/fir/core/Partition")⟩ := by decide +kernel
theorem ef_rm0 (m : MethodId) (x0 : Int64) (x1 : Int32) (x2 : Int64) : entryFrame m #[(.long x0), (.int x1), (.long x2)] maxLocals = mkF m 0 #[.val (.long x0), .second, .val (.int x1), .val (.long x2), .second, .unset, .unset, .unset, .unset, .unset, .unset, .unset] [] := by first | (simp [entryFrame, mkF, argsToLocals, Value.category, maxLocals]; done) | rfl
def Q0 (Z : State) (q1 : Int64) (p2 : Int32) (q3 : Int64) (aALL : Addr) (kA : ClassId) (aDB : Addr) (aTX : Addr) (aUSER : Addr) (h0 : Heap) (n0 : Nat) (v : Option Value) (h : Heap) (L : List Loc) : Prop := v = some (.int (1 : Int32)) ∧ Fr n0 L
set_option maxRecDepth 65536 in
set_option maxHeartbeats 40000000 in
theorem rm0 (l : Launch) (Z : State) (a0 : Array Value) (hw : ∀ d ∈ tables_1, d.before a0 Z = true) (ws : List Jvm.Cond) (q1 : Int64) (p2 : Int32) (q3 : Int64) (aALL : Addr) (kA : ClassId) (aDB : Addr) (aTX : Addr) (aUSER : Addr) (h0 : Heap) (n0 : Nat) (Z0 : n0 ≤ h0.size) (S_ALL : Sta Z h0 "com/example/fir/fir/core/Partition" "ALL" "[Lcom/example/fir/fir/core/Partition;" (.ref aALL)) (V_ALL : Arv Z h0 aALL kA (.object "com/example/fir/fir/core/Partition") (3 : Int32) [(.ref aDB), (.ref aTX), (.ref aUSER)] .null) (S_DB : Sta Z h0 "com/example/fir/fir/core/Partition" "DB" "Lcom/example/fir/fir/core/Partition;" (.ref aDB)) (S_TX : Sta Z h0 "com/example/fir/fir/core/Partition" "TX" "Lcom/example/fir/fir/core/Partition;" (.ref aTX)) (S_USER : Sta Z h0 "com/example/fir/fir/core/Partition" "USER" "Lcom/example/fir/fir/core/Partition;" (.ref aUSER)) :
    MetFree l x (head1 (Jvm.Cond.code x code maxLocals ret :: ws) room_1) (fun ar UU => ar = #[(.long q1), (.int p2), (.long q3)] ∧ Z.Warmed39 UU.vm ∧ UU.heap = h0) (fun _ _ _ _ _ => True) (fun _ UU oo UU' => ∃ vv LL, oo = .returned vv ∧ Q0 Z q1 p2 q3 aALL kA aDB aTX aUSER h0 n0 vv UU'.heap LL ∧ FrameEnd UU oo UU' LL room_1.cells room_1.slots) := by
  refine MetFree.of_bodySF (plainFor_of_name pn_0) hisR ?_
  intro p e s m args below meth c s₁ Bd hml0 hP hK
  obtain ⟨rfl, hZ, hh⟩ := hP
  have hx := Bd.exec
  have hby := Bd.bytes
  have hml : c.maxLocals = 12 := hml0
  have hown : s.vm.findClass "com/example/fir/fir/core/PartitionOfPinLaw" = some m.cls := findClass_of_methodNamed Bd.named
  have hnm := (name_of_methodNamed Bd.named Bd.method).1
  have X0 : Stand p l e room_1 s m #[(.long q1), (.int p2), (.long q3)] below meth c s₁ [] 0 0 := Stand.of_body Bd
  have e0 : s₁.heap = h0 := by rw [← hh, Bd.state]; rfl
  have N0 := Fr.nil n0
  have KC0 : Keep h0 h0 [] := Keep.refl h0 []
  have pre0 : ∀ tgt, Steps p.tables e below (s₁.setTop (mkF m 0 #[.val (.long q1), .second, .val (.int p2), .val (.long q3), .second, .unset, .unset, .unset, .unset, .unset, .unset, .unset] [])) tgt → Steps p.tables e below (s₁.setTop (entryFrame m #[(.long q1), (.int p2), (.long q3)] maxLocals)) tgt := fun tgt kk => castTop (ef_rm0 m (q1) (p2) (q3)) kk
  have pre1 : ∀ tgt, Steps p.tables e below (s₁.setTop (mkF m 27 #[.val (.long q1), .second, .val (.int p2), .val (.long q3), .second, .val (.int ((p2 &&& (7 : Int32)) - (2 : Int32))), .val (.long (q3 &&& (4398046511103 : Int64))), .second, .val (.long ((((p2 &&& (7 : Int32)) - (2 : Int32)).toInt64 <<< ((42 : Int32) &&& 0x3f).toInt64) ||| (q3 &&& (4398046511103 : Int64)))), .second, .unset, .unset] [(.long q1)])) tgt → Steps p.tables e below (s₁.setTop (entryFrame m #[(.long q1), (.int p2), (.long q3)] maxLocals)) tgt := by
    intro tgt kk
    refine pre0 tgt ?_
    refine XS.iloadN X0.here hx rfl (hb hby at_0) rfl ?_
    show Steps p.tables e below (s₁.setTop (mkF m 1 #[.val (.long q1), .second, .val (.int p2), .val (.long q3), .second, .unset, .unset, .unset, .unset, .unset, .unset, .unset] [(.int p2)])) _
    refine XS.bipush X0.here hx rfl (hb hby at_1) ?_
    show Steps p.tables e below (s₁.setTop (mkF m 3 #[.val (.long q1), .second, .val (.int p2), .val (.long q3), .second, .unset, .unset, .unset, .unset, .unset, .unset, .unset] [(.int (7 : Int32)), (.int p2)])) _
    refine XS.iand X0.here hx rfl (hb hby at_3) rfl ?_
    show Steps p.tables e below (s₁.setTop (mkF m 4 #[.val (.long q1), .second, .val (.int p2), .val (.long q3), .second, .unset, .unset, .unset, .unset, .unset, .unset, .unset] [(.int (p2 &&& (7 : Int32)))])) _
    refine XS.iconst X0.here hx rfl (hb hby at_4) ?_
    show Steps p.tables e below (s₁.setTop (mkF m 5 #[.val (.long q1), .second, .val (.int p2), .val (.long q3), .second, .unset, .unset, .unset, .unset, .unset, .unset, .unset] [(.int (2 : Int32)), (.int (p2 &&& (7 : Int32)))])) _
    refine XS.isub X0.here hx rfl (hb hby at_5) rfl ?_
    show Steps p.tables e below (s₁.setTop (mkF m 6 #[.val (.long q1), .second, .val (.int p2), .val (.long q3), .second, .unset, .unset, .unset, .unset, .unset, .unset, .unset] [(.int ((p2 &&& (7 : Int32)) - (2 : Int32)))])) _
    refine XS.istore X0.here hx rfl (hb hby at_6) rfl (l' := #[.val (.long q1), .second, .val (.int p2), .val (.long q3), .second, .val (.int ((p2 &&& (7 : Int32)) - (2 : Int32))), .unset, .unset, .unset, .unset, .unset, .unset]) rfl ?_
    show Steps p.tables e below (s₁.setTop (mkF m 8 #[.val (.long q1), .second, .val (.int p2), .val (.long q3), .second, .val (.int ((p2 &&& (7 : Int32)) - (2 : Int32))), .unset, .unset, .unset, .unset, .unset, .unset] [])) _
    refine XS.lloadN X0.here hx rfl (hb hby at_8) rfl ?_
    show Steps p.tables e below (s₁.setTop (mkF m 9 #[.val (.long q1), .second, .val (.int p2), .val (.long q3), .second, .val (.int ((p2 &&& (7 : Int32)) - (2 : Int32))), .unset, .unset, .unset, .unset, .unset, .unset] [(.long q3)])) _
    refine X0.ldc2Long hx hown (mvT hZ (hw _ (List.mem_of_getElem? (i := 0) rfl))) (g := (mkF m 9 #[.val (.long q1), .second, .val (.int p2), .val (.long q3), .second, .val (.int ((p2 &&& (7 : Int32)) - (2 : Int32))), .unset, .unset, .unset, .unset, .unset, .unset] [(.long q3)])) rfl (hb hby at_9) _ ?_
    show Steps p.tables e below (s₁.setTop (mkF m 12 #[.val (.long q1), .second, .val (.int p2), .val (.long q3), .second, .val (.int ((p2 &&& (7 : Int32)) - (2 : Int32))), .unset, .unset, .unset, .unset, .unset, .unset] [(.long (4398046511103 : Int64)), (.long q3)])) _
    refine XS.land X0.here hx rfl (hb hby at_12) rfl ?_
    show Steps p.tables e below (s₁.setTop (mkF m 13 #[.val (.long q1), .second, .val (.int p2), .val (.long q3), .second, .val (.int ((p2 &&& (7 : Int32)) - (2 : Int32))), .unset, .unset, .unset, .unset, .unset, .unset] [(.long (q3 &&& (4398046511103 : Int64)))])) _
    refine XS.lstore X0.here hx rfl (hb hby at_13) rfl (l' := #[.val (.long q1), .second, .val (.int p2), .val (.long q3), .second, .val (.int ((p2 &&& (7 : Int32)) - (2 : Int32))), .val (.long (q3 &&& (4398046511103 : Int64))), .second, .unset, .unset, .unset, .unset]) rfl ?_
    show Steps p.tables e below (s₁.setTop (mkF m 15 #[.val (.long q1), .second, .val (.int p2), .val (.long q3), .second, .val (.int ((p2 &&& (7 : Int32)) - (2 : Int32))), .val (.long (q3 &&& (4398046511103 : Int64))), .second, .unset, .unset, .unset, .unset] [])) _
    refine XS.iload X0.here hx rfl (hb hby at_15) rfl ?_
    show Steps p.tables e below (s₁.setTop (mkF m 17 #[.val (.long q1), .second, .val (.int p2), .val (.long q3), .second, .val (.int ((p2 &&& (7 : Int32)) - (2 : Int32))), .val (.long (q3 &&& (4398046511103 : Int64))), .second, .unset, .unset, .unset, .unset] [(.int ((p2 &&& (7 : Int32)) - (2 : Int32)))])) _
    refine XS.i2l X0.here hx rfl (hb hby at_17) rfl ?_
    show Steps p.tables e below (s₁.setTop (mkF m 18 #[.val (.long q1), .second, .val (.int p2), .val (.long q3), .second, .val (.int ((p2 &&& (7 : Int32)) - (2 : Int32))), .val (.long (q3 &&& (4398046511103 : Int64))), .second, .unset, .unset, .unset, .unset] [(.long ((p2 &&& (7 : Int32)) - (2 : Int32)).toInt64)])) _
    refine XS.bipush X0.here hx rfl (hb hby at_18) ?_
    show Steps p.tables e below (s₁.setTop (mkF m 20 #[.val (.long q1), .second, .val (.int p2), .val (.long q3), .second, .val (.int ((p2 &&& (7 : Int32)) - (2 : Int32))), .val (.long (q3 &&& (4398046511103 : Int64))), .second, .unset, .unset, .unset, .unset] [(.int (42 : Int32)), (.long ((p2 &&& (7 : Int32)) - (2 : Int32)).toInt64)])) _
    refine XS.lshl X0.here hx rfl (hb hby at_20) rfl ?_
    show Steps p.tables e below (s₁.setTop (mkF m 21 #[.val (.long q1), .second, .val (.int p2), .val (.long q3), .second, .val (.int ((p2 &&& (7 : Int32)) - (2 : Int32))), .val (.long (q3 &&& (4398046511103 : Int64))), .second, .unset, .unset, .unset, .unset] [(.long (((p2 &&& (7 : Int32)) - (2 : Int32)).toInt64 <<< ((42 : Int32) &&& 0x3f).toInt64))])) _
    refine XS.lload X0.here hx rfl (hb hby at_21) rfl ?_
    show Steps p.tables e below (s₁.setTop (mkF m 23 #[.val (.long q1), .second, .val (.int p2), .val (.long q3), .second, .val (.int ((p2 &&& (7 : Int32)) - (2 : Int32))), .val (.long (q3 &&& (4398046511103 : Int64))), .second, .unset, .unset, .unset, .unset] [(.long (q3 &&& (4398046511103 : Int64))), (.long (((p2 &&& (7 : Int32)) - (2 : Int32)).toInt64 <<< ((42 : Int32) &&& 0x3f).toInt64))])) _
    refine XS.lor X0.here hx rfl (hb hby at_23) rfl ?_
    show Steps p.tables e below (s₁.setTop (mkF m 24 #[.val (.long q1), .second, .val (.int p2), .val (.long q3), .second, .val (.int ((p2 &&& (7 : Int32)) - (2 : Int32))), .val (.long (q3 &&& (4398046511103 : Int64))), .second, .unset, .unset, .unset, .unset] [(.long ((((p2 &&& (7 : Int32)) - (2 : Int32)).toInt64 <<< ((42 : Int32) &&& 0x3f).toInt64) ||| (q3 &&& (4398046511103 : Int64))))])) _
    refine XS.lstore X0.here hx rfl (hb hby at_24) rfl (l' := #[.val (.long q1), .second, .val (.int p2), .val (.long q3), .second, .val (.int ((p2 &&& (7 : Int32)) - (2 : Int32))), .val (.long (q3 &&& (4398046511103 : Int64))), .second, .val (.long ((((p2 &&& (7 : Int32)) - (2 : Int32)).toInt64 <<< ((42 : Int32) &&& 0x3f).toInt64) ||| (q3 &&& (4398046511103 : Int64)))), .second, .unset, .unset]) rfl ?_
    show Steps p.tables e below (s₁.setTop (mkF m 26 #[.val (.long q1), .second, .val (.int p2), .val (.long q3), .second, .val (.int ((p2 &&& (7 : Int32)) - (2 : Int32))), .val (.long (q3 &&& (4398046511103 : Int64))), .second, .val (.long ((((p2 &&& (7 : Int32)) - (2 : Int32)).toInt64 <<< ((42 : Int32) &&& 0x3f).toInt64) ||| (q3 &&& (4398046511103 : Int64)))), .second, .unset, .unset] [])) _
    refine XS.lloadN X0.here hx rfl (hb hby at_26) rfl ?_
    show Steps p.tables e below (s₁.setTop (mkF m 27 #[.val (.long q1), .second, .val (.int p2), .val (.long q3), .second, .val (.int ((p2 &&& (7 : Int32)) - (2 : Int32))), .val (.long (q3 &&& (4398046511103 : Int64))), .second, .val (.long ((((p2 &&& (7 : Int32)) - (2 : Int32)).toInt64 <<< ((42 : Int32) &&& 0x3f).toInt64) ||| (q3 &&& (4398046511103 : Int64)))), .second, .unset, .unset] [(.long q1)])) _
    exact kk
  obtain ⟨_, _, ⟨T2, L2, k2, n2⟩, -, X2, ⟨Lc2, hQ2, l2, y2, z2⟩, st2⟩ := Jvm.LawKit.callS X0 hx (y := (⟨"com/example/fir/fir/core/Partition", "of", "(J)Lcom/example/fir/fir/core/Partition;"⟩ : MethodName)) hown (mvT hZ (hw _ (List.mem_of_getElem? (i := 1) rfl))) (mvT hZ (hw _ (List.mem_of_getElem? (i := 2) rfl))) (mvT hZ (hw _ (List.mem_of_getElem? (i := 3) rfl))) (mvT hZ (hw _ (List.mem_of_getElem? (i := 4) rfl))) (by decide) (backOf (W := 0) (rmO l Z a0 hw [] (q1) aALL kA aDB aTX aUSER h0 n0 Z0 S_ALL V_ALL) hZ (hw _ (List.mem_of_getElem? (i := 4) rfl)) (hw _ (List.mem_of_getElem? (i := 3) rfl)) (by decide) (by decide)) (g := (mkF m 27 #[.val (.long q1), .second, .val (.int p2), .val (.long q3), .second, .val (.int ((p2 &&& (7 : Int32)) - (2 : Int32))), .val (.long (q3 &&& (4398046511103 : Int64))), .second, .val (.long ((((p2 &&& (7 : Int32)) - (2 : Int32)).toInt64 <<< ((42 : Int32) &&& 0x3f).toInt64) ||| (q3 &&& (4398046511103 : Int64)))), .second, .unset, .unset] [(.long q1)])) rfl (by rw [hml]; rfl) (argsL := [(.long q1)]) (rest := []) (lenOf pd__J_Lcom_example_fir_fir_core_Partition_ rfl) rfl (by show 2 * 0 + _ ≤ _; exact Nat.le_of_eq rfl) (hb hby at_27) (fun _ _ => ⟨rfl, e0, (by decide : 0 + 0 ≤ _), (by decide : 0 + 0 ≤ _)⟩)
  dsimp only [Pt.U, Pt.locs, Pt.cells, Pt.slots] at X2 l2 y2 z2 st2 hQ2
  subst l2 y2 z2
  obtain ⟨rfl, N2q, hh2⟩ := hQ2
  have N2 := Fr.app N0 N2q
  have pre3 : ∀ tgt, Steps p.tables e below (T2.setTop (mkF m 34 #[.val (.long q1), .second, .val (.int p2), .val (.long q3), .second, .val (.int ((p2 &&& (7 : Int32)) - (2 : Int32))), .val (.long (q3 &&& (4398046511103 : Int64))), .second, .val (.long ((((p2 &&& (7 : Int32)) - (2 : Int32)).toInt64 <<< ((42 : Int32) &&& 0x3f).toInt64) ||| (q3 &&& (4398046511103 : Int64)))), .second, .val (own_of ((q1.toUInt64 >>> ((42 : Int32) &&& 0x3f).toInt64.toUInt64).toInt64) aDB aTX aUSER), .unset] [(.long ((((p2 &&& (7 : Int32)) - (2 : Int32)).toInt64 <<< ((42 : Int32) &&& 0x3f).toInt64) ||| (q3 &&& (4398046511103 : Int64))))])) tgt → Steps p.tables e below (s₁.setTop (entryFrame m #[(.long q1), (.int p2), (.long q3)] maxLocals)) tgt := by
    intro tgt kk
    refine pre1 tgt ?_
    refine st2 _ ?_
    show Steps p.tables e below (T2.setTop (mkF m 30 #[.val (.long q1), .second, .val (.int p2), .val (.long q3), .second, .val (.int ((p2 &&& (7 : Int32)) - (2 : Int32))), .val (.long (q3 &&& (4398046511103 : Int64))), .second, .val (.long ((((p2 &&& (7 : Int32)) - (2 : Int32)).toInt64 <<< ((42 : Int32) &&& 0x3f).toInt64) ||| (q3 &&& (4398046511103 : Int64)))), .second, .unset, .unset] [(own_of ((q1.toUInt64 >>> ((42 : Int32) &&& 0x3f).toInt64.toUInt64).toInt64) aDB aTX aUSER)])) _
    refine XS.astore X2.here hx rfl (hb hby at_30) rfl own_of_ref (l' := #[.val (.long q1), .second, .val (.int p2), .val (.long q3), .second, .val (.int ((p2 &&& (7 : Int32)) - (2 : Int32))), .val (.long (q3 &&& (4398046511103 : Int64))), .second, .val (.long ((((p2 &&& (7 : Int32)) - (2 : Int32)).toInt64 <<< ((42 : Int32) &&& 0x3f).toInt64) ||| (q3 &&& (4398046511103 : Int64)))), .second, .val (own_of ((q1.toUInt64 >>> ((42 : Int32) &&& 0x3f).toInt64.toUInt64).toInt64) aDB aTX aUSER), .unset]) (by rw [XS.store1 (o := .unset) rfl (Or.inl rfl) (XT.cat1 own_of_ref)]; rfl) ?_
    show Steps p.tables e below (T2.setTop (mkF m 32 #[.val (.long q1), .second, .val (.int p2), .val (.long q3), .second, .val (.int ((p2 &&& (7 : Int32)) - (2 : Int32))), .val (.long (q3 &&& (4398046511103 : Int64))), .second, .val (.long ((((p2 &&& (7 : Int32)) - (2 : Int32)).toInt64 <<< ((42 : Int32) &&& 0x3f).toInt64) ||| (q3 &&& (4398046511103 : Int64)))), .second, .val (own_of ((q1.toUInt64 >>> ((42 : Int32) &&& 0x3f).toInt64.toUInt64).toInt64) aDB aTX aUSER), .unset] [])) _
    refine XS.lload X2.here hx rfl (hb hby at_32) rfl ?_
    show Steps p.tables e below (T2.setTop (mkF m 34 #[.val (.long q1), .second, .val (.int p2), .val (.long q3), .second, .val (.int ((p2 &&& (7 : Int32)) - (2 : Int32))), .val (.long (q3 &&& (4398046511103 : Int64))), .second, .val (.long ((((p2 &&& (7 : Int32)) - (2 : Int32)).toInt64 <<< ((42 : Int32) &&& 0x3f).toInt64) ||| (q3 &&& (4398046511103 : Int64)))), .second, .val (own_of ((q1.toUInt64 >>> ((42 : Int32) &&& 0x3f).toInt64.toUInt64).toInt64) aDB aTX aUSER), .unset] [(.long ((((p2 &&& (7 : Int32)) - (2 : Int32)).toInt64 <<< ((42 : Int32) &&& 0x3f).toInt64) ||| (q3 &&& (4398046511103 : Int64))))])) _
    exact kk
  obtain ⟨_, _, ⟨T4, L4, k4, n4⟩, -, X4, ⟨Lc4, hQ4, l4, y4, z4⟩, st4⟩ := Jvm.LawKit.callS X2 hx (y := (⟨"com/example/fir/fir/core/Partition", "of", "(J)Lcom/example/fir/fir/core/Partition;"⟩ : MethodName)) hown (mvT hZ (hw _ (List.mem_of_getElem? (i := 1) rfl))) (mvT hZ (hw _ (List.mem_of_getElem? (i := 2) rfl))) (mvT hZ (hw _ (List.mem_of_getElem? (i := 3) rfl))) (mvT hZ (hw _ (List.mem_of_getElem? (i := 4) rfl))) (by decide) (backOf (W := 0) (rmO l Z a0 hw [] (((((p2 &&& (7 : Int32)) - (2 : Int32)).toInt64 <<< ((42 : Int32) &&& 0x3f).toInt64) ||| (q3 &&& (4398046511103 : Int64)))) aALL kA aDB aTX aUSER h0 n0 Z0 S_ALL V_ALL) hZ (hw _ (List.mem_of_getElem? (i := 4) rfl)) (hw _ (List.mem_of_getElem? (i := 3) rfl)) (by decide) (by decide)) (g := (mkF m 34 #[.val (.long q1), .second, .val (.int p2), .val (.long q3), .second, .val (.int ((p2 &&& (7 : Int32)) - (2 : Int32))), .val (.long (q3 &&& (4398046511103 : Int64))), .second, .val (.long ((((p2 &&& (7 : Int32)) - (2 : Int32)).toInt64 <<< ((42 : Int32) &&& 0x3f).toInt64) ||| (q3 &&& (4398046511103 : Int64)))), .second, .val (own_of ((q1.toUInt64 >>> ((42 : Int32) &&& 0x3f).toInt64.toUInt64).toInt64) aDB aTX aUSER), .unset] [(.long ((((p2 &&& (7 : Int32)) - (2 : Int32)).toInt64 <<< ((42 : Int32) &&& 0x3f).toInt64) ||| (q3 &&& (4398046511103 : Int64))))])) rfl (by rw [hml]; rfl) (argsL := [(.long ((((p2 &&& (7 : Int32)) - (2 : Int32)).toInt64 <<< ((42 : Int32) &&& 0x3f).toInt64) ||| (q3 &&& (4398046511103 : Int64))))]) (rest := []) (lenOf pd__J_Lcom_example_fir_fir_core_Partition_ rfl) rfl (by show 2 * 0 + _ ≤ _; exact Nat.le_of_eq rfl) (hb hby at_34) (fun _ _ => ⟨rfl, hh2, (by decide : 0 + 0 ≤ _), (by decide : 0 + 0 ≤ _)⟩)
  dsimp only [Pt.U, Pt.locs, Pt.cells, Pt.slots] at X4 l4 y4 z4 st4 hQ4
  subst l4 y4 z4
  obtain ⟨rfl, N4q, hh4⟩ := hQ4
  have N4 := Fr.app N2 N4q
  have pre5 : ∀ tgt, Steps p.tables e below (T4.setTop (mkF m 42 #[.val (.long q1), .second, .val (.int p2), .val (.long q3), .second, .val (.int ((p2 &&& (7 : Int32)) - (2 : Int32))), .val (.long (q3 &&& (4398046511103 : Int64))), .second, .val (.long ((((p2 &&& (7 : Int32)) - (2 : Int32)).toInt64 <<< ((42 : Int32) &&& 0x3f).toInt64) ||| (q3 &&& (4398046511103 : Int64)))), .second, .val (own_of ((q1.toUInt64 >>> ((42 : Int32) &&& 0x3f).toInt64.toUInt64).toInt64) aDB aTX aUSER), .val (own_of ((((((p2 &&& (7 : Int32)) - (2 : Int32)).toInt64 <<< ((42 : Int32) &&& 0x3f).toInt64) ||| (q3 &&& (4398046511103 : Int64))).toUInt64 >>> ((42 : Int32) &&& 0x3f).toInt64.toUInt64).toInt64) aDB aTX aUSER)] [(.long q1), (own_of ((q1.toUInt64 >>> ((42 : Int32) &&& 0x3f).toInt64.toUInt64).toInt64) aDB aTX aUSER)])) tgt → Steps p.tables e below (s₁.setTop (entryFrame m #[(.long q1), (.int p2), (.long q3)] maxLocals)) tgt := by
    intro tgt kk
    refine pre3 tgt ?_
    refine st4 _ ?_
    show Steps p.tables e below (T4.setTop (mkF m 37 #[.val (.long q1), .second, .val (.int p2), .val (.long q3), .second, .val (.int ((p2 &&& (7 : Int32)) - (2 : Int32))), .val (.long (q3 &&& (4398046511103 : Int64))), .second, .val (.long ((((p2 &&& (7 : Int32)) - (2 : Int32)).toInt64 <<< ((42 : Int32) &&& 0x3f).toInt64) ||| (q3 &&& (4398046511103 : Int64)))), .second, .val (own_of ((q1.toUInt64 >>> ((42 : Int32) &&& 0x3f).toInt64.toUInt64).toInt64) aDB aTX aUSER), .unset] [(own_of ((((((p2 &&& (7 : Int32)) - (2 : Int32)).toInt64 <<< ((42 : Int32) &&& 0x3f).toInt64) ||| (q3 &&& (4398046511103 : Int64))).toUInt64 >>> ((42 : Int32) &&& 0x3f).toInt64.toUInt64).toInt64) aDB aTX aUSER)])) _
    refine XS.astore X4.here hx rfl (hb hby at_37) rfl own_of_ref (l' := #[.val (.long q1), .second, .val (.int p2), .val (.long q3), .second, .val (.int ((p2 &&& (7 : Int32)) - (2 : Int32))), .val (.long (q3 &&& (4398046511103 : Int64))), .second, .val (.long ((((p2 &&& (7 : Int32)) - (2 : Int32)).toInt64 <<< ((42 : Int32) &&& 0x3f).toInt64) ||| (q3 &&& (4398046511103 : Int64)))), .second, .val (own_of ((q1.toUInt64 >>> ((42 : Int32) &&& 0x3f).toInt64.toUInt64).toInt64) aDB aTX aUSER), .val (own_of ((((((p2 &&& (7 : Int32)) - (2 : Int32)).toInt64 <<< ((42 : Int32) &&& 0x3f).toInt64) ||| (q3 &&& (4398046511103 : Int64))).toUInt64 >>> ((42 : Int32) &&& 0x3f).toInt64.toUInt64).toInt64) aDB aTX aUSER)]) (by rw [XS.store1 (o := .unset) rfl (Or.inl rfl) (XT.cat1 own_of_ref)]; rfl) ?_
    show Steps p.tables e below (T4.setTop (mkF m 39 #[.val (.long q1), .second, .val (.int p2), .val (.long q3), .second, .val (.int ((p2 &&& (7 : Int32)) - (2 : Int32))), .val (.long (q3 &&& (4398046511103 : Int64))), .second, .val (.long ((((p2 &&& (7 : Int32)) - (2 : Int32)).toInt64 <<< ((42 : Int32) &&& 0x3f).toInt64) ||| (q3 &&& (4398046511103 : Int64)))), .second, .val (own_of ((q1.toUInt64 >>> ((42 : Int32) &&& 0x3f).toInt64.toUInt64).toInt64) aDB aTX aUSER), .val (own_of ((((((p2 &&& (7 : Int32)) - (2 : Int32)).toInt64 <<< ((42 : Int32) &&& 0x3f).toInt64) ||| (q3 &&& (4398046511103 : Int64))).toUInt64 >>> ((42 : Int32) &&& 0x3f).toInt64.toUInt64).toInt64) aDB aTX aUSER)] [])) _
    refine XS.aload X4.here hx rfl (hb hby at_39) rfl own_of_ref ?_
    show Steps p.tables e below (T4.setTop (mkF m 41 #[.val (.long q1), .second, .val (.int p2), .val (.long q3), .second, .val (.int ((p2 &&& (7 : Int32)) - (2 : Int32))), .val (.long (q3 &&& (4398046511103 : Int64))), .second, .val (.long ((((p2 &&& (7 : Int32)) - (2 : Int32)).toInt64 <<< ((42 : Int32) &&& 0x3f).toInt64) ||| (q3 &&& (4398046511103 : Int64)))), .second, .val (own_of ((q1.toUInt64 >>> ((42 : Int32) &&& 0x3f).toInt64.toUInt64).toInt64) aDB aTX aUSER), .val (own_of ((((((p2 &&& (7 : Int32)) - (2 : Int32)).toInt64 <<< ((42 : Int32) &&& 0x3f).toInt64) ||| (q3 &&& (4398046511103 : Int64))).toUInt64 >>> ((42 : Int32) &&& 0x3f).toInt64.toUInt64).toInt64) aDB aTX aUSER)] [(own_of ((q1.toUInt64 >>> ((42 : Int32) &&& 0x3f).toInt64.toUInt64).toInt64) aDB aTX aUSER)])) _
    refine XS.lloadN X4.here hx rfl (hb hby at_41) rfl ?_
    show Steps p.tables e below (T4.setTop (mkF m 42 #[.val (.long q1), .second, .val (.int p2), .val (.long q3), .second, .val (.int ((p2 &&& (7 : Int32)) - (2 : Int32))), .val (.long (q3 &&& (4398046511103 : Int64))), .second, .val (.long ((((p2 &&& (7 : Int32)) - (2 : Int32)).toInt64 <<< ((42 : Int32) &&& 0x3f).toInt64) ||| (q3 &&& (4398046511103 : Int64)))), .second, .val (own_of ((q1.toUInt64 >>> ((42 : Int32) &&& 0x3f).toInt64.toUInt64).toInt64) aDB aTX aUSER), .val (own_of ((((((p2 &&& (7 : Int32)) - (2 : Int32)).toInt64 <<< ((42 : Int32) &&& 0x3f).toInt64) ||| (q3 &&& (4398046511103 : Int64))).toUInt64 >>> ((42 : Int32) &&& 0x3f).toInt64.toUInt64).toInt64) aDB aTX aUSER)] [(.long q1), (own_of ((q1.toUInt64 >>> ((42 : Int32) &&& 0x3f).toInt64.toUInt64).toInt64) aDB aTX aUSER)])) _
    exact kk
  obtain ⟨_, _, ⟨T6, L6, k6, n6⟩, -, X6, ⟨Lc6, hQ6, l6, y6, z6⟩, st6⟩ := Jvm.LawKit.callS X4 hx (y := (⟨"com/example/fir/fir/core/PartitionOfPinLaw", "byRange", "(J)Lcom/example/fir/fir/core/Partition;"⟩ : MethodName)) hown (mvT hZ (hw _ (List.mem_of_getElem? (i := 8) rfl))) (mvT hZ (hw _ (List.mem_of_getElem? (i := 9) rfl))) (mvT hZ (hw _ (List.mem_of_getElem? (i := 10) rfl))) (mvT hZ (hw _ (List.mem_of_getElem? (i := 11) rfl))) (by decide) (backOf (W := 1) (rmG l Z a0 hw [] (q1) aDB aTX aUSER h0 n0 Z0 S_DB S_TX S_USER) hZ (hw _ (List.mem_of_getElem? (i := 11) rfl)) (hw _ (List.mem_of_getElem? (i := 10) rfl)) (by decide) (by decide)) (g := (mkF m 42 #[.val (.long q1), .second, .val (.int p2), .val (.long q3), .second, .val (.int ((p2 &&& (7 : Int32)) - (2 : Int32))), .val (.long (q3 &&& (4398046511103 : Int64))), .second, .val (.long ((((p2 &&& (7 : Int32)) - (2 : Int32)).toInt64 <<< ((42 : Int32) &&& 0x3f).toInt64) ||| (q3 &&& (4398046511103 : Int64)))), .second, .val (own_of ((q1.toUInt64 >>> ((42 : Int32) &&& 0x3f).toInt64.toUInt64).toInt64) aDB aTX aUSER), .val (own_of ((((((p2 &&& (7 : Int32)) - (2 : Int32)).toInt64 <<< ((42 : Int32) &&& 0x3f).toInt64) ||| (q3 &&& (4398046511103 : Int64))).toUInt64 >>> ((42 : Int32) &&& 0x3f).toInt64.toUInt64).toInt64) aDB aTX aUSER)] [(.long q1), (own_of ((q1.toUInt64 >>> ((42 : Int32) &&& 0x3f).toInt64.toUInt64).toInt64) aDB aTX aUSER)])) rfl (by rw [hml]; rfl) (argsL := [(.long q1)]) (rest := [(own_of ((q1.toUInt64 >>> ((42 : Int32) &&& 0x3f).toInt64.toUInt64).toInt64) aDB aTX aUSER)]) (lenOf pd__J_Lcom_example_fir_fir_core_Partition_ rfl) rfl (by show 2 * 0 + _ ≤ _; simp only [List.map_cons, List.map_nil, List.sum_cons, List.sum_nil, XT.cat1 own_of_ref]; decide) (hb hby at_42) (fun _ _ => ⟨rfl, hh4, (by decide : 0 + 0 ≤ _), (by decide : 0 + 0 ≤ _)⟩)
  dsimp only [Pt.U, Pt.locs, Pt.cells, Pt.slots] at X6 l6 y6 z6 st6 hQ6
  subst l6 y6 z6
  obtain ⟨rfl, N6q, hh6⟩ := hQ6
  have N6 := Fr.app N4 N6q
  have pre7 : ∀ tgt, Steps p.tables e below (T6.setTop (mkF m 45 #[.val (.long q1), .second, .val (.int p2), .val (.long q3), .second, .val (.int ((p2 &&& (7 : Int32)) - (2 : Int32))), .val (.long (q3 &&& (4398046511103 : Int64))), .second, .val (.long ((((p2 &&& (7 : Int32)) - (2 : Int32)).toInt64 <<< ((42 : Int32) &&& 0x3f).toInt64) ||| (q3 &&& (4398046511103 : Int64)))), .second, .val (own_of ((q1.toUInt64 >>> ((42 : Int32) &&& 0x3f).toInt64.toUInt64).toInt64) aDB aTX aUSER), .val (own_of ((((((p2 &&& (7 : Int32)) - (2 : Int32)).toInt64 <<< ((42 : Int32) &&& 0x3f).toInt64) ||| (q3 &&& (4398046511103 : Int64))).toUInt64 >>> ((42 : Int32) &&& 0x3f).toInt64.toUInt64).toInt64) aDB aTX aUSER)] [(own_rng q1 aDB aTX aUSER), (own_of ((q1.toUInt64 >>> ((42 : Int32) &&& 0x3f).toInt64.toUInt64).toInt64) aDB aTX aUSER)])) tgt → Steps p.tables e below (s₁.setTop (entryFrame m #[(.long q1), (.int p2), (.long q3)] maxLocals)) tgt := by
    intro tgt kk
    refine pre5 tgt ?_
    refine st6 _ ?_
    show Steps p.tables e below (T6.setTop (mkF m 45 #[.val (.long q1), .second, .val (.int p2), .val (.long q3), .second, .val (.int ((p2 &&& (7 : Int32)) - (2 : Int32))), .val (.long (q3 &&& (4398046511103 : Int64))), .second, .val (.long ((((p2 &&& (7 : Int32)) - (2 : Int32)).toInt64 <<< ((42 : Int32) &&& 0x3f).toInt64) ||| (q3 &&& (4398046511103 : Int64)))), .second, .val (own_of ((q1.toUInt64 >>> ((42 : Int32) &&& 0x3f).toInt64.toUInt64).toInt64) aDB aTX aUSER), .val (own_of ((((((p2 &&& (7 : Int32)) - (2 : Int32)).toInt64 <<< ((42 : Int32) &&& 0x3f).toInt64) ||| (q3 &&& (4398046511103 : Int64))).toUInt64 >>> ((42 : Int32) &&& 0x3f).toInt64.toUInt64).toInt64) aDB aTX aUSER)] [(own_rng q1 aDB aTX aUSER), (own_of ((q1.toUInt64 >>> ((42 : Int32) &&& 0x3f).toInt64.toUInt64).toInt64) aDB aTX aUSER)])) _
    exact kk
  obtain ⟨T13, lo13, X13, N13, e13, pre13⟩ : ∃ (T' : State) (lo : List Loc), Stand p l e room_1 s m #[(.long q1), (.int p2), (.long q3)] below meth c T' lo 0 0 ∧ Fr n0 lo ∧ T'.heap = h0 ∧ ∀ tgt, Steps p.tables e below (T'.setTop (mkF m 63 #[.val (.long q1), .second, .val (.int p2), .val (.long q3), .second, .val (.int ((p2 &&& (7 : Int32)) - (2 : Int32))), .val (.long (q3 &&& (4398046511103 : Int64))), .second, .val (.long ((((p2 &&& (7 : Int32)) - (2 : Int32)).toInt64 <<< ((42 : Int32) &&& 0x3f).toInt64) ||| (q3 &&& (4398046511103 : Int64)))), .second, .val (own_of ((q1.toUInt64 >>> ((42 : Int32) &&& 0x3f).toInt64.toUInt64).toInt64) aDB aTX aUSER), .val (own_of ((((((p2 &&& (7 : Int32)) - (2 : Int32)).toInt64 <<< ((42 : Int32) &&& 0x3f).toInt64) ||| (q3 &&& (4398046511103 : Int64))).toUInt64 >>> ((42 : Int32) &&& 0x3f).toInt64.toUInt64).toInt64) aDB aTX aUSER)] [(.int (bI ((((own_of ((q1.toUInt64 >>> ((42 : Int32) &&& 0x3f).toInt64.toUInt64).toInt64) aDB aTX aUSER) : Value) = (own_rng q1 aDB aTX aUSER)) ∧ (((own_of ((((((p2 &&& (7 : Int32)) - (2 : Int32)).toInt64 <<< ((42 : Int32) &&& 0x3f).toInt64) ||| (q3 &&& (4398046511103 : Int64))).toUInt64 >>> ((42 : Int32) &&& 0x3f).toInt64.toUInt64).toInt64) aDB aTX aUSER) : Value) = (own_num ((p2 &&& (7 : Int32)) - (2 : Int32)) aDB aTX aUSER)))))])) tgt → Steps p.tables e below (s₁.setTop (entryFrame m #[(.long q1), (.int p2), (.long q3)] maxLocals)) tgt := by
    by_cases hc45_8 : ((own_of ((q1.toUInt64 >>> ((42 : Int32) &&& 0x3f).toInt64.toUInt64).toInt64) aDB aTX aUSER) : Value) = (own_rng q1 aDB aTX aUSER)
    · skip
      have pre9 : ∀ tgt, Steps p.tables e below (T6.setTop (mkF m 52 #[.val (.long q1), .second, .val (.int p2), .val (.long q3), .second, .val (.int ((p2 &&& (7 : Int32)) - (2 : Int32))), .val (.long (q3 &&& (4398046511103 : Int64))), .second, .val (.long ((((p2 &&& (7 : Int32)) - (2 : Int32)).toInt64 <<< ((42 : Int32) &&& 0x3f).toInt64) ||| (q3 &&& (4398046511103 : Int64)))), .second, .val (own_of ((q1.toUInt64 >>> ((42 : Int32) &&& 0x3f).toInt64.toUInt64).toInt64) aDB aTX aUSER), .val (own_of ((((((p2 &&& (7 : Int32)) - (2 : Int32)).toInt64 <<< ((42 : Int32) &&& 0x3f).toInt64) ||| (q3 &&& (4398046511103 : Int64))).toUInt64 >>> ((42 : Int32) &&& 0x3f).toInt64.toUInt64).toInt64) aDB aTX aUSER)] [(.int ((p2 &&& (7 : Int32)) - (2 : Int32))), (own_of ((((((p2 &&& (7 : Int32)) - (2 : Int32)).toInt64 <<< ((42 : Int32) &&& 0x3f).toInt64) ||| (q3 &&& (4398046511103 : Int64))).toUInt64 >>> ((42 : Int32) &&& 0x3f).toInt64.toUInt64).toInt64) aDB aTX aUSER)])) tgt → Steps p.tables e below (s₁.setTop (entryFrame m #[(.long q1), (.int p2), (.long q3)] maxLocals)) tgt := by
        intro tgt kk
        refine pre7 tgt ?_
        refine XT.acmpNo X6.here hx rfl (hb hby at_45) rfl own_of_ref own_rng_ref (XT.aa_ne_f hc45_8) ?_
        show Steps p.tables e below (T6.setTop (mkF m 48 #[.val (.long q1), .second, .val (.int p2), .val (.long q3), .second, .val (.int ((p2 &&& (7 : Int32)) - (2 : Int32))), .val (.long (q3 &&& (4398046511103 : Int64))), .second, .val (.long ((((p2 &&& (7 : Int32)) - (2 : Int32)).toInt64 <<< ((42 : Int32) &&& 0x3f).toInt64) ||| (q3 &&& (4398046511103 : Int64)))), .second, .val (own_of ((q1.toUInt64 >>> ((42 : Int32) &&& 0x3f).toInt64.toUInt64).toInt64) aDB aTX aUSER), .val (own_of ((((((p2 &&& (7 : Int32)) - (2 : Int32)).toInt64 <<< ((42 : Int32) &&& 0x3f).toInt64) ||| (q3 &&& (4398046511103 : Int64))).toUInt64 >>> ((42 : Int32) &&& 0x3f).toInt64.toUInt64).toInt64) aDB aTX aUSER)] [])) _
        refine XS.aload X6.here hx rfl (hb hby at_48) rfl own_of_ref ?_
        show Steps p.tables e below (T6.setTop (mkF m 50 #[.val (.long q1), .second, .val (.int p2), .val (.long q3), .second, .val (.int ((p2 &&& (7 : Int32)) - (2 : Int32))), .val (.long (q3 &&& (4398046511103 : Int64))), .second, .val (.long ((((p2 &&& (7 : Int32)) - (2 : Int32)).toInt64 <<< ((42 : Int32) &&& 0x3f).toInt64) ||| (q3 &&& (4398046511103 : Int64)))), .second, .val (own_of ((q1.toUInt64 >>> ((42 : Int32) &&& 0x3f).toInt64.toUInt64).toInt64) aDB aTX aUSER), .val (own_of ((((((p2 &&& (7 : Int32)) - (2 : Int32)).toInt64 <<< ((42 : Int32) &&& 0x3f).toInt64) ||| (q3 &&& (4398046511103 : Int64))).toUInt64 >>> ((42 : Int32) &&& 0x3f).toInt64.toUInt64).toInt64) aDB aTX aUSER)] [(own_of ((((((p2 &&& (7 : Int32)) - (2 : Int32)).toInt64 <<< ((42 : Int32) &&& 0x3f).toInt64) ||| (q3 &&& (4398046511103 : Int64))).toUInt64 >>> ((42 : Int32) &&& 0x3f).toInt64.toUInt64).toInt64) aDB aTX aUSER)])) _
        refine XS.iload X6.here hx rfl (hb hby at_50) rfl ?_
        show Steps p.tables e below (T6.setTop (mkF m 52 #[.val (.long q1), .second, .val (.int p2), .val (.long q3), .second, .val (.int ((p2 &&& (7 : Int32)) - (2 : Int32))), .val (.long (q3 &&& (4398046511103 : Int64))), .second, .val (.long ((((p2 &&& (7 : Int32)) - (2 : Int32)).toInt64 <<< ((42 : Int32) &&& 0x3f).toInt64) ||| (q3 &&& (4398046511103 : Int64)))), .second, .val (own_of ((q1.toUInt64 >>> ((42 : Int32) &&& 0x3f).toInt64.toUInt64).toInt64) aDB aTX aUSER), .val (own_of ((((((p2 &&& (7 : Int32)) - (2 : Int32)).toInt64 <<< ((42 : Int32) &&& 0x3f).toInt64) ||| (q3 &&& (4398046511103 : Int64))).toUInt64 >>> ((42 : Int32) &&& 0x3f).toInt64.toUInt64).toInt64) aDB aTX aUSER)] [(.int ((p2 &&& (7 : Int32)) - (2 : Int32))), (own_of ((((((p2 &&& (7 : Int32)) - (2 : Int32)).toInt64 <<< ((42 : Int32) &&& 0x3f).toInt64) ||| (q3 &&& (4398046511103 : Int64))).toUInt64 >>> ((42 : Int32) &&& 0x3f).toInt64.toUInt64).toInt64) aDB aTX aUSER)])) _
        exact kk
      obtain ⟨_, _, ⟨T10, L10, k10, n10⟩, -, X10, ⟨Lc10, hQ10, l10, y10, z10⟩, st10⟩ := Jvm.LawKit.callS X6 hx (y := (⟨"com/example/fir/fir/core/PartitionOfPinLaw", "byNumber", "(I)Lcom/example/fir/fir/core/Partition;"⟩ : MethodName)) hown (mvT hZ (hw _ (List.mem_of_getElem? (i := 14) rfl))) (mvT hZ (hw _ (List.mem_of_getElem? (i := 15) rfl))) (mvT hZ (hw _ (List.mem_of_getElem? (i := 10) rfl))) (mvT hZ (hw _ (List.mem_of_getElem? (i := 16) rfl))) (by decide) (backOf (W := 1) (rmN l Z a0 hw [] (((p2 &&& (7 : Int32)) - (2 : Int32))) aDB aTX aUSER h0 n0 Z0 S_DB S_TX S_USER) hZ (hw _ (List.mem_of_getElem? (i := 16) rfl)) (hw _ (List.mem_of_getElem? (i := 10) rfl)) (by decide) (by decide)) (g := (mkF m 52 #[.val (.long q1), .second, .val (.int p2), .val (.long q3), .second, .val (.int ((p2 &&& (7 : Int32)) - (2 : Int32))), .val (.long (q3 &&& (4398046511103 : Int64))), .second, .val (.long ((((p2 &&& (7 : Int32)) - (2 : Int32)).toInt64 <<< ((42 : Int32) &&& 0x3f).toInt64) ||| (q3 &&& (4398046511103 : Int64)))), .second, .val (own_of ((q1.toUInt64 >>> ((42 : Int32) &&& 0x3f).toInt64.toUInt64).toInt64) aDB aTX aUSER), .val (own_of ((((((p2 &&& (7 : Int32)) - (2 : Int32)).toInt64 <<< ((42 : Int32) &&& 0x3f).toInt64) ||| (q3 &&& (4398046511103 : Int64))).toUInt64 >>> ((42 : Int32) &&& 0x3f).toInt64.toUInt64).toInt64) aDB aTX aUSER)] [(.int ((p2 &&& (7 : Int32)) - (2 : Int32))), (own_of ((((((p2 &&& (7 : Int32)) - (2 : Int32)).toInt64 <<< ((42 : Int32) &&& 0x3f).toInt64) ||| (q3 &&& (4398046511103 : Int64))).toUInt64 >>> ((42 : Int32) &&& 0x3f).toInt64.toUInt64).toInt64) aDB aTX aUSER)])) rfl (by rw [hml]; rfl) (argsL := [(.int ((p2 &&& (7 : Int32)) - (2 : Int32)))]) (rest := [(own_of ((((((p2 &&& (7 : Int32)) - (2 : Int32)).toInt64 <<< ((42 : Int32) &&& 0x3f).toInt64) ||| (q3 &&& (4398046511103 : Int64))).toUInt64 >>> ((42 : Int32) &&& 0x3f).toInt64.toUInt64).toInt64) aDB aTX aUSER)]) (lenOf pd__I_Lcom_example_fir_fir_core_Partition_ rfl) rfl (by show 2 * 0 + _ ≤ _; simp only [List.map_cons, List.map_nil, List.sum_cons, List.sum_nil, XT.cat1 own_of_ref]; decide) (hb hby at_52) (fun _ _ => ⟨rfl, hh6, (by decide : 0 + 0 ≤ _), (by decide : 0 + 0 ≤ _)⟩)
      dsimp only [Pt.U, Pt.locs, Pt.cells, Pt.slots] at X10 l10 y10 z10 st10 hQ10
      subst l10 y10 z10
      obtain ⟨rfl, N10q, hh10⟩ := hQ10
      have N10 := Fr.app N6 N10q
      have pre11 : ∀ tgt, Steps p.tables e below (T10.setTop (mkF m 55 #[.val (.long q1), .second, .val (.int p2), .val (.long q3), .second, .val (.int ((p2 &&& (7 : Int32)) - (2 : Int32))), .val (.long (q3 &&& (4398046511103 : Int64))), .second, .val (.long ((((p2 &&& (7 : Int32)) - (2 : Int32)).toInt64 <<< ((42 : Int32) &&& 0x3f).toInt64) ||| (q3 &&& (4398046511103 : Int64)))), .second, .val (own_of ((q1.toUInt64 >>> ((42 : Int32) &&& 0x3f).toInt64.toUInt64).toInt64) aDB aTX aUSER), .val (own_of ((((((p2 &&& (7 : Int32)) - (2 : Int32)).toInt64 <<< ((42 : Int32) &&& 0x3f).toInt64) ||| (q3 &&& (4398046511103 : Int64))).toUInt64 >>> ((42 : Int32) &&& 0x3f).toInt64.toUInt64).toInt64) aDB aTX aUSER)] [(own_num ((p2 &&& (7 : Int32)) - (2 : Int32)) aDB aTX aUSER), (own_of ((((((p2 &&& (7 : Int32)) - (2 : Int32)).toInt64 <<< ((42 : Int32) &&& 0x3f).toInt64) ||| (q3 &&& (4398046511103 : Int64))).toUInt64 >>> ((42 : Int32) &&& 0x3f).toInt64.toUInt64).toInt64) aDB aTX aUSER)])) tgt → Steps p.tables e below (s₁.setTop (entryFrame m #[(.long q1), (.int p2), (.long q3)] maxLocals)) tgt := by
        intro tgt kk
        refine pre9 tgt ?_
        refine st10 _ ?_
        show Steps p.tables e below (T10.setTop (mkF m 55 #[.val (.long q1), .second, .val (.int p2), .val (.long q3), .second, .val (.int ((p2 &&& (7 : Int32)) - (2 : Int32))), .val (.long (q3 &&& (4398046511103 : Int64))), .second, .val (.long ((((p2 &&& (7 : Int32)) - (2 : Int32)).toInt64 <<< ((42 : Int32) &&& 0x3f).toInt64) ||| (q3 &&& (4398046511103 : Int64)))), .second, .val (own_of ((q1.toUInt64 >>> ((42 : Int32) &&& 0x3f).toInt64.toUInt64).toInt64) aDB aTX aUSER), .val (own_of ((((((p2 &&& (7 : Int32)) - (2 : Int32)).toInt64 <<< ((42 : Int32) &&& 0x3f).toInt64) ||| (q3 &&& (4398046511103 : Int64))).toUInt64 >>> ((42 : Int32) &&& 0x3f).toInt64.toUInt64).toInt64) aDB aTX aUSER)] [(own_num ((p2 &&& (7 : Int32)) - (2 : Int32)) aDB aTX aUSER), (own_of ((((((p2 &&& (7 : Int32)) - (2 : Int32)).toInt64 <<< ((42 : Int32) &&& 0x3f).toInt64) ||| (q3 &&& (4398046511103 : Int64))).toUInt64 >>> ((42 : Int32) &&& 0x3f).toInt64.toUInt64).toInt64) aDB aTX aUSER)])) _
        exact kk
      by_cases hc55_12 : ((own_of ((((((p2 &&& (7 : Int32)) - (2 : Int32)).toInt64 <<< ((42 : Int32) &&& 0x3f).toInt64) ||| (q3 &&& (4398046511103 : Int64))).toUInt64 >>> ((42 : Int32) &&& 0x3f).toInt64.toUInt64).toInt64) aDB aTX aUSER) : Value) = (own_num ((p2 &&& (7 : Int32)) - (2 : Int32)) aDB aTX aUSER)
      · skip
        refine ⟨T10, _, X10, N10, hh10, fun tgt kk => ?_⟩
        have kq14 : ((.int (bI ((((own_of ((q1.toUInt64 >>> ((42 : Int32) &&& 0x3f).toInt64.toUInt64).toInt64) aDB aTX aUSER) : Value) = (own_rng q1 aDB aTX aUSER)) ∧ (((own_of ((((((p2 &&& (7 : Int32)) - (2 : Int32)).toInt64 <<< ((42 : Int32) &&& 0x3f).toInt64) ||| (q3 &&& (4398046511103 : Int64))).toUInt64 >>> ((42 : Int32) &&& 0x3f).toInt64.toUInt64).toInt64) aDB aTX aUSER) : Value) = (own_num ((p2 &&& (7 : Int32)) - (2 : Int32)) aDB aTX aUSER))))) : Value) = (.int (1 : Int32)) := ((congrArg Value.int (bI_iff (and_iff_right hc45_8))).trans (congrArg Value.int (bI_t hc55_12)))
        rw [kq14] at kk
        refine pre11 tgt ?_
        refine XT.acmpNo X10.here hx rfl (hb hby at_55) rfl own_of_ref own_num_ref (XT.aa_ne_f hc55_12) ?_
        show Steps p.tables e below (T10.setTop (mkF m 58 #[.val (.long q1), .second, .val (.int p2), .val (.long q3), .second, .val (.int ((p2 &&& (7 : Int32)) - (2 : Int32))), .val (.long (q3 &&& (4398046511103 : Int64))), .second, .val (.long ((((p2 &&& (7 : Int32)) - (2 : Int32)).toInt64 <<< ((42 : Int32) &&& 0x3f).toInt64) ||| (q3 &&& (4398046511103 : Int64)))), .second, .val (own_of ((q1.toUInt64 >>> ((42 : Int32) &&& 0x3f).toInt64.toUInt64).toInt64) aDB aTX aUSER), .val (own_of ((((((p2 &&& (7 : Int32)) - (2 : Int32)).toInt64 <<< ((42 : Int32) &&& 0x3f).toInt64) ||| (q3 &&& (4398046511103 : Int64))).toUInt64 >>> ((42 : Int32) &&& 0x3f).toInt64.toUInt64).toInt64) aDB aTX aUSER)] [])) _
        refine XS.iconst X10.here hx rfl (hb hby at_58) ?_
        show Steps p.tables e below (T10.setTop (mkF m 59 #[.val (.long q1), .second, .val (.int p2), .val (.long q3), .second, .val (.int ((p2 &&& (7 : Int32)) - (2 : Int32))), .val (.long (q3 &&& (4398046511103 : Int64))), .second, .val (.long ((((p2 &&& (7 : Int32)) - (2 : Int32)).toInt64 <<< ((42 : Int32) &&& 0x3f).toInt64) ||| (q3 &&& (4398046511103 : Int64)))), .second, .val (own_of ((q1.toUInt64 >>> ((42 : Int32) &&& 0x3f).toInt64.toUInt64).toInt64) aDB aTX aUSER), .val (own_of ((((((p2 &&& (7 : Int32)) - (2 : Int32)).toInt64 <<< ((42 : Int32) &&& 0x3f).toInt64) ||| (q3 &&& (4398046511103 : Int64))).toUInt64 >>> ((42 : Int32) &&& 0x3f).toInt64.toUInt64).toInt64) aDB aTX aUSER)] [(.int (1 : Int32))])) _
        refine XS.goto X10.here hx rfl (pc0 := 59) (pc' := 63) rfl (hb hby at_59) (by decide) (by decide) ?_
        show Steps p.tables e below (T10.setTop (mkF m 63 #[.val (.long q1), .second, .val (.int p2), .val (.long q3), .second, .val (.int ((p2 &&& (7 : Int32)) - (2 : Int32))), .val (.long (q3 &&& (4398046511103 : Int64))), .second, .val (.long ((((p2 &&& (7 : Int32)) - (2 : Int32)).toInt64 <<< ((42 : Int32) &&& 0x3f).toInt64) ||| (q3 &&& (4398046511103 : Int64)))), .second, .val (own_of ((q1.toUInt64 >>> ((42 : Int32) &&& 0x3f).toInt64.toUInt64).toInt64) aDB aTX aUSER), .val (own_of ((((((p2 &&& (7 : Int32)) - (2 : Int32)).toInt64 <<< ((42 : Int32) &&& 0x3f).toInt64) ||| (q3 &&& (4398046511103 : Int64))).toUInt64 >>> ((42 : Int32) &&& 0x3f).toInt64.toUInt64).toInt64) aDB aTX aUSER)] [(.int (1 : Int32))])) _
        exact kk
      · skip
        refine ⟨T10, _, X10, N10, hh10, fun tgt kk => ?_⟩
        have kq15 : ((.int (bI ((((own_of ((q1.toUInt64 >>> ((42 : Int32) &&& 0x3f).toInt64.toUInt64).toInt64) aDB aTX aUSER) : Value) = (own_rng q1 aDB aTX aUSER)) ∧ (((own_of ((((((p2 &&& (7 : Int32)) - (2 : Int32)).toInt64 <<< ((42 : Int32) &&& 0x3f).toInt64) ||| (q3 &&& (4398046511103 : Int64))).toUInt64 >>> ((42 : Int32) &&& 0x3f).toInt64.toUInt64).toInt64) aDB aTX aUSER) : Value) = (own_num ((p2 &&& (7 : Int32)) - (2 : Int32)) aDB aTX aUSER))))) : Value) = (.int (0 : Int32)) := ((congrArg Value.int (bI_iff (and_iff_right hc45_8))).trans (congrArg Value.int (bI_f hc55_12)))
        rw [kq15] at kk
        refine pre11 tgt ?_
        refine XT.acmpYes X10.here hx rfl (pc0 := 55) (pc' := 62) rfl (hb hby at_55) rfl own_of_ref own_num_ref (XT.aa_ne_t hc55_12) (by decide) (by decide) ?_
        show Steps p.tables e below (T10.setTop (mkF m 62 #[.val (.long q1), .second, .val (.int p2), .val (.long q3), .second, .val (.int ((p2 &&& (7 : Int32)) - (2 : Int32))), .val (.long (q3 &&& (4398046511103 : Int64))), .second, .val (.long ((((p2 &&& (7 : Int32)) - (2 : Int32)).toInt64 <<< ((42 : Int32) &&& 0x3f).toInt64) ||| (q3 &&& (4398046511103 : Int64)))), .second, .val (own_of ((q1.toUInt64 >>> ((42 : Int32) &&& 0x3f).toInt64.toUInt64).toInt64) aDB aTX aUSER), .val (own_of ((((((p2 &&& (7 : Int32)) - (2 : Int32)).toInt64 <<< ((42 : Int32) &&& 0x3f).toInt64) ||| (q3 &&& (4398046511103 : Int64))).toUInt64 >>> ((42 : Int32) &&& 0x3f).toInt64.toUInt64).toInt64) aDB aTX aUSER)] [])) _
        refine XS.iconst X10.here hx rfl (hb hby at_62) ?_
        show Steps p.tables e below (T10.setTop (mkF m 63 #[.val (.long q1), .second, .val (.int p2), .val (.long q3), .second, .val (.int ((p2 &&& (7 : Int32)) - (2 : Int32))), .val (.long (q3 &&& (4398046511103 : Int64))), .second, .val (.long ((((p2 &&& (7 : Int32)) - (2 : Int32)).toInt64 <<< ((42 : Int32) &&& 0x3f).toInt64) ||| (q3 &&& (4398046511103 : Int64)))), .second, .val (own_of ((q1.toUInt64 >>> ((42 : Int32) &&& 0x3f).toInt64.toUInt64).toInt64) aDB aTX aUSER), .val (own_of ((((((p2 &&& (7 : Int32)) - (2 : Int32)).toInt64 <<< ((42 : Int32) &&& 0x3f).toInt64) ||| (q3 &&& (4398046511103 : Int64))).toUInt64 >>> ((42 : Int32) &&& 0x3f).toInt64.toUInt64).toInt64) aDB aTX aUSER)] [(.int (0 : Int32))])) _
        exact kk
    · skip
      refine ⟨T6, _, X6, N6, hh6, fun tgt kk => ?_⟩
      have kq16 : ((.int (bI ((((own_of ((q1.toUInt64 >>> ((42 : Int32) &&& 0x3f).toInt64.toUInt64).toInt64) aDB aTX aUSER) : Value) = (own_rng q1 aDB aTX aUSER)) ∧ (((own_of ((((((p2 &&& (7 : Int32)) - (2 : Int32)).toInt64 <<< ((42 : Int32) &&& 0x3f).toInt64) ||| (q3 &&& (4398046511103 : Int64))).toUInt64 >>> ((42 : Int32) &&& 0x3f).toInt64.toUInt64).toInt64) aDB aTX aUSER) : Value) = (own_num ((p2 &&& (7 : Int32)) - (2 : Int32)) aDB aTX aUSER))))) : Value) = (.int (0 : Int32)) := (congrArg Value.int (bI_f (fun q => hc45_8 q.1)))
      rw [kq16] at kk
      refine pre7 tgt ?_
      refine XT.acmpYes X6.here hx rfl (pc0 := 45) (pc' := 62) rfl (hb hby at_45) rfl own_of_ref own_rng_ref (XT.aa_ne_t hc45_8) (by decide) (by decide) ?_
      show Steps p.tables e below (T6.setTop (mkF m 62 #[.val (.long q1), .second, .val (.int p2), .val (.long q3), .second, .val (.int ((p2 &&& (7 : Int32)) - (2 : Int32))), .val (.long (q3 &&& (4398046511103 : Int64))), .second, .val (.long ((((p2 &&& (7 : Int32)) - (2 : Int32)).toInt64 <<< ((42 : Int32) &&& 0x3f).toInt64) ||| (q3 &&& (4398046511103 : Int64)))), .second, .val (own_of ((q1.toUInt64 >>> ((42 : Int32) &&& 0x3f).toInt64.toUInt64).toInt64) aDB aTX aUSER), .val (own_of ((((((p2 &&& (7 : Int32)) - (2 : Int32)).toInt64 <<< ((42 : Int32) &&& 0x3f).toInt64) ||| (q3 &&& (4398046511103 : Int64))).toUInt64 >>> ((42 : Int32) &&& 0x3f).toInt64.toUInt64).toInt64) aDB aTX aUSER)] [])) _
      refine XS.iconst X6.here hx rfl (hb hby at_62) ?_
      show Steps p.tables e below (T6.setTop (mkF m 63 #[.val (.long q1), .second, .val (.int p2), .val (.long q3), .second, .val (.int ((p2 &&& (7 : Int32)) - (2 : Int32))), .val (.long (q3 &&& (4398046511103 : Int64))), .second, .val (.long ((((p2 &&& (7 : Int32)) - (2 : Int32)).toInt64 <<< ((42 : Int32) &&& 0x3f).toInt64) ||| (q3 &&& (4398046511103 : Int64)))), .second, .val (own_of ((q1.toUInt64 >>> ((42 : Int32) &&& 0x3f).toInt64.toUInt64).toInt64) aDB aTX aUSER), .val (own_of ((((((p2 &&& (7 : Int32)) - (2 : Int32)).toInt64 <<< ((42 : Int32) &&& 0x3f).toInt64) ||| (q3 &&& (4398046511103 : Int64))).toUInt64 >>> ((42 : Int32) &&& 0x3f).toInt64.toUInt64).toInt64) aDB aTX aUSER)] [(.int (0 : Int32))])) _
      exact kk
  obtain ⟨fs, hr, hrun, hended, hW, hsame⟩ := X13.leave (v := some (.int (nar .boolean (bI ((((own_of ((q1.toUInt64 >>> ((42 : Int32) &&& 0x3f).toInt64.toUInt64).toInt64) aDB aTX aUSER) : Value) = (own_rng q1 aDB aTX aUSER)) ∧ (((own_of ((((((p2 &&& (7 : Int32)) - (2 : Int32)).toInt64 <<< ((42 : Int32) &&& 0x3f).toInt64) ||| (q3 &&& (4398046511103 : Int64))).toUInt64 >>> ((42 : Int32) &&& 0x3f).toInt64.toUInt64).toInt64) aDB aTX aUSER) : Value) = (own_num ((p2 &&& (7 : Int32)) - (2 : Int32)) aDB aTX aUSER))))))) (fun h => by rw [Bd.returns] at h; cases h)
  refine ⟨_, _, pre13 _ ?_, hrun, hended, _, _, rfl, ?_, ⟨_, rfl⟩, hW, hsame.mono (by decide) (by decide)⟩
  · skip
    exact retN X13 hx (t := .boolean) Bd.returns (by simp) (hb hby at_63) hr
  · show Q0 Z q1 p2 q3 aALL kA aDB aTX aUSER h0 n0 _ T13.heap _
    rw [e13]
    exact ⟨bI_one ⟨own_l1 q1, own_l2 p2 q3⟩, N13⟩
set_option maxRecDepth 65536 in
set_option maxHeartbeats 40000000 in
theorem comes_1 {Post : Tables → Env → Array Value → State → Outcome → State → Prop} (hpost : ∀ tb e args s v u, (limb_1_1.after args s (.returned v) u = true ∧ limb_1_2.after args s (.returned v) u = true ∧ True) → FrameEnd s (.returned v) u (Jvm.fieldLocs frame_1_writes args s ++ Jvm.arrayLocs frame_1_arrays args s ++ Jvm.staticLocs frame_1_statics s) 0 0 → Post tb e args s (.returned v) u) :
    ArmFor flags0 classFile x code maxLocals ret World_1 tables_1 room_1 Calls_1 rest_1 Pre_1 Post := by
  intro l hfl _ _ p e ha hc hk s m args below hf hA hF happ hP
  obtain ⟨hcalls, hrest, hpre⟩ := hP
  obtain ⟨-, -, -, hnamed, -, -, -, hat⟩ := (Spec.applies_iff hf).mp happ
  obtain ⟨hg, hn⟩ := and_e (Cond.before_iff.mp (show (Jvm.Cond.and given_1 narrow_1).before args s = true from hpre))
  obtain ⟨hcount, g0⟩ := and_e hg
  obtain ⟨ga0, g1⟩ := and_e g0
  obtain ⟨ga1, g2⟩ := and_e g1
  have ga2 := g2
  obtain ⟨w0, w1, w2, rfl⟩ : ∃ w0 w1 w2 : Value, args = #[w0, w1, w2] := by
    have hs : args.size = 3 := by simpa [Cond.value, given_1] using hcount
    obtain ⟨L⟩ := args
    match L, hs with
    | [w0, w1, w2], _ => exact ⟨w0, w1, w2, rfl⟩
  have hw := fun d (hd : d ∈ tables_1) => atoms_spec (ws := Jvm.Cond.code x code maxLocals ret :: tables_1) hat d (List.mem_cons_of_mem _ hd)
  have hfit : Fit s := fun {y c} hc i hi => by
    obtain ⟨ha, rfl⟩ := Array.getElem?_eq_some_iff.mp hc
    have q := List.all_eq_true.mp ((Array.all_eq_true_iff_forall_mem.mp hF) _ (Array.getElem_mem ha)) i (List.mem_range.mpr hi)
    simpa [Array.getElem?_eq_getElem hi] using q
  obtain ⟨i0, ei0⟩ := isL_v ga0
  obtain rfl : w0 = (.long i0) := Option.some.inj ei0
  obtain ⟨i1, ei1⟩ := is_v ga1
  obtain rfl : w1 = (.int i1) := Option.some.inj ei1
  obtain ⟨i2, ei2⟩ := isL_v ga2
  obtain rfl : w2 = (.long i2) := Option.some.inj ei2
  obtain ⟨hn_0, hr_0⟩ := and_e hn
  obtain ⟨hn_1, hr_1⟩ := and_e hr_0
  obtain ⟨hn_2, hr_2⟩ := and_e hr_1
  obtain ⟨hn_3, hr_3⟩ := and_e hr_2
  obtain ⟨hn_4, hr_4⟩ := and_e hr_3
  obtain ⟨hn_5, hr_5⟩ := and_e hr_4
  obtain ⟨hn_6, hr_6⟩ := and_e hr_5
  obtain ⟨a_ALL, ev_ALL⟩ := arr_v hn_0
  obtain ⟨c_ALL, A_ALL⟩ := Arr.start ev_ALL hn_0
  have S_ALL : Sta s s.heap "com/example/fir/fir/core/Partition" "ALL" "[Lcom/example/fir/fir/core/Partition;" (.ref a_ALL) := Sta.start ev_ALL (Or.inr ⟨(hw _ (List.mem_of_getElem? (i := 3) rfl)), (hw _ (List.mem_of_getElem? (i := 6) rfl))⟩)
  obtain ⟨a_DB, ev_DB⟩ := exa_v hn_2
  have E_DB : Exa s s.heap a_DB "com/example/fir/fir/core/Partition" := Exa.start ev_DB hn_2
  have S_DB : Sta s s.heap "com/example/fir/fir/core/Partition" "DB" "Lcom/example/fir/fir/core/Partition;" (.ref a_DB) := Sta.start ev_DB (Or.inr ⟨(hw _ (List.mem_of_getElem? (i := 3) rfl)), (hw _ (List.mem_of_getElem? (i := 7) rfl))⟩)
  obtain ⟨a_TX, ev_TX⟩ := exa_v hn_4
  have E_TX : Exa s s.heap a_TX "com/example/fir/fir/core/Partition" := Exa.start ev_TX hn_4
  have S_TX : Sta s s.heap "com/example/fir/fir/core/Partition" "TX" "Lcom/example/fir/fir/core/Partition;" (.ref a_TX) := Sta.start ev_TX (Or.inr ⟨(hw _ (List.mem_of_getElem? (i := 3) rfl)), (hw _ (List.mem_of_getElem? (i := 19) rfl))⟩)
  obtain ⟨a_USER, ev_USER⟩ := exa_v hn_6
  have E_USER : Exa s s.heap a_USER "com/example/fir/fir/core/Partition" := Exa.start ev_USER hn_6
  have S_USER : Sta s s.heap "com/example/fir/fir/core/Partition" "USER" "Lcom/example/fir/fir/core/Partition;" (.ref a_USER) := Sta.start ev_USER (Or.inr ⟨(hw _ (List.mem_of_getElem? (i := 3) rfl)), (hw _ (List.mem_of_getElem? (i := 21) rfl))⟩)
  have len_ALL := own_eqI hn_1
  have el_ALL_0 := own_eqR ev_DB rfl hn_3
  have el_ALL_1 := own_eqR ev_TX rfl hn_5
  have el_ALL_2 := own_eqR ev_USER rfl hr_6
  have hsz : c_ALL.slots.size < 2 ^ 31 ∧ c_ALL.slots.size.toInt32 = (3 : Int32) := own_len ev_ALL A_ALL len_ALL
  have V_ALL : Arv s s.heap a_ALL c_ALL.cls (.object "com/example/fir/fir/core/Partition") (3 : Int32) [(.ref a_DB), (.ref a_TX), (.ref a_USER)] .null := Arv.start hfit A_ALL hsz.1 hsz.2 (by decide) rfl ⟨(elem_in el_ALL_0 ev_ALL rfl A_ALL.1).2, (elem_in el_ALL_1 ev_ALL rfl A_ALL.1).2, (elem_in el_ALL_2 ev_ALL rfl A_ALL.1).2, trivial⟩
  obtain ⟨n, o, h1, h2, h3, _, L, rfl, ⟨rfl, N⟩, hq⟩ := rm0 l s _ hw tables_1 i0 i1 i2 a_ALL c_ALL.cls a_DB a_TX a_USER s.heap s.heap.size (Nat.le_refl _) S_ALL V_ALL S_DB S_TX S_USER p e ha hc hk s m _ below hf ((Spec.applies_iff_loose hf).mp happ).1 ⟨rfl, State.Warmed39.refl s, rfl⟩ trivial
  refine ⟨n, _, h1, h2, h3, hpost _ _ _ _ _ _ ⟨Cond.after_iff.mpr rfl, Cond.after_iff.mpr (eq_i res_at (Term.int_eval (1)) rfl), trivial⟩ ⟨hq.1, hq.2.1, (hq.2.2.sift fun y hy => Or.inr (N y hy)).mono (by decide) (by decide)⟩⟩
theorem main_1_1 : Claimed_1_1 := comes_1 fun _ _ _ _ _ _ h hF => ⟨h.1, hF⟩
theorem main_1_2 : Claimed_1_2 := comes_1 fun _ _ _ _ _ _ h hF => ⟨h.2.1, hF⟩
end Jvm.Pilot.@@N@@
namespace Jvm.Pilot.@@N@@
open Jvm Jvm.ClassFile Sem Op Lib Jvm.Free Jvm.Stand Jvm.Pilot.@@N@@.Jvm.D
/-! MADE BY PROGRAM (witnessworld.py) out of the Statement's table words and the real class files: 14 classes; the members and pool entries that the words name. The judged class is class 1, her method 3. -/
namespace start1
open Jvm.ClassFile
def u (s : String) : CpInfo := .utf8 (stringToUtf16 s)
/-- a pool by its gaps: so many unusable entries, then the entry; so many at the end -/
def gap : Nat → List CpInfo → List CpInfo
  | 0, r => r
  | n + 1, r => .unusable :: gap n r
def poolList (es : List (Nat × CpInfo)) (last : Nat) : List CpInfo := es.foldr (fun e r => gap e.1 (e.2 :: r)) (gap last [])
def pool (es : List (Nat × CpInfo)) (last : Nat) : Array CpInfo := ⟨poolList es last⟩
def fileOf (pool : Array CpInfo) (this : Nat) (attrs : Array Attribute := #[]) (ms : Array MethodInfo := #[]) (fl : Nat := 33) (sup : Nat := 0) (ifs : Array Nat := #[]) (fds : Array FieldInfo := #[]) : ClassFile where
  minorVersion := 0
  majorVersion := 65
  constantPool := pool
  accessFlags := fl
  thisClass := this
  superClass := sup
  interfaces := ifs
  fields := fds
  methods := ms
  attributes := attrs
def plain (name : String) (sup : Option ClassId) : Class where
  name := name
  kind := .ordinary
  loader := none
  accessFlags := 33
  super := sup
  interfaces := #[]
  cf := none
  fields := #[]
  methods := #[]
  instanceTypes := #[]
  staticTypes := #[]
  resolved := #[]
  callSites := []
  init := .initialized
  statics := none
  mirror := none

def pool0 : Array CpInfo := pool [(5, u "<init>"), (0, u "()V"), (1, .class_ 10), (1, u "java/lang/Object")] 113

def k0m0 : Method := { name := "<init>", desc := "()V", sig := { parameters := [], returnType := none }, accessFlags := 1, code := none }
/-- java/lang/Object -/
def k0 : Class := { plain "java/lang/Object" none with
  accessFlags := 33
  interfaces := #[]
  cf := some (fileOf pool0 8 #[] #[{ accessFlags := 1, nameIndex := 5, descriptorIndex := 6, attributes := #[] }] 33 0 #[] #[])
  fields := #[]
  methods := #[k0m0]
  instanceTypes := #[]
  staticTypes := #[]
  resolved := Array.replicate 124 none
  statics := none }

def pool1 : Array CpInfo := pool [(2, .class_ 4), (1, u "java/lang/Object"), (0, u "<init>"), (0, u "()V"), (0, .long 4398046511104), (1, .fieldref 10 11), (0, .class_ 12), (0, .nameAndType 13 14), (0, u "com/example/fir/fir/core/Partition"), (0, u "DB"), (0, u "Lcom/example/fir/fir/core/Partition;"), (0, .long 8796093022208), (1, .fieldref 10 18), (0, .nameAndType 19 14), (0, u "TX"), (0, .long 13194139533312), (1, .fieldref 10 23), (0, .nameAndType 24 14), (0, u "USER"), (0, .long 4398046511103), (1, .methodref 10 28), (0, .nameAndType 29 30), (0, u "of"), (0, u "(J)Lcom/example/fir/fir/core/Partition;"), (0, .methodref 32 33), (0, .class_ 34), (0, .nameAndType 35 30), (0, u "com/example/fir/fir/core/PartitionOfPinLaw"), (0, u "byRange"), (0, .methodref 32 37), (0, .nameAndType 38 39), (0, u "byNumber"), (0, u "(I)Lcom/example/fir/fir/core/Partition;"), (3, u "law"), (0, u "(JIJ)Z")] 2

def k1m0 : Method := { name := "<init>", desc := "()V", sig := { parameters := [], returnType := none }, accessFlags := 2, code := none }
def k1c1 : Code := { maxStack := 4, maxLocals := 2, code := method_2_code, exceptionTable := #[], attributes := #[] }
def k1m1 : Method := { name := "byRange", desc := "(J)Lcom/example/fir/fir/core/Partition;", sig := { parameters := [.long], returnType := some (.object "com/example/fir/fir/core/Partition") }, accessFlags := 10, code := some k1c1 }
def k1c2 : Code := { maxStack := 2, maxLocals := 1, code := method_3_code, exceptionTable := #[], attributes := #[] }
def k1m2 : Method := { name := "byNumber", desc := "(I)Lcom/example/fir/fir/core/Partition;", sig := { parameters := [.int], returnType := some (.object "com/example/fir/fir/core/Partition") }, accessFlags := 10, code := some k1c2 }
def k1c3 : Code := { maxStack := 4, maxLocals := 12, code := code, exceptionTable := #[], attributes := #[] }
def k1m3 : Method := { name := "law", desc := "(JIJ)Z", sig := { parameters := [.long, .int, .long], returnType := some .boolean }, accessFlags := 9, code := some k1c3 }
/-- com/example/fir/fir/core/PartitionOfPinLaw -/
def k1 : Class := { plain "com/example/fir/fir/core/PartitionOfPinLaw" (some 0) with
  accessFlags := 49
  interfaces := #[]
  cf := some (fileOf pool1 32 #[] #[{ accessFlags := 2, nameIndex := 5, descriptorIndex := 6, attributes := #[] }, { accessFlags := 10, nameIndex := 35, descriptorIndex := 30, attributes := #[] }, { accessFlags := 10, nameIndex := 38, descriptorIndex := 39, attributes := #[] }, { accessFlags := 9, nameIndex := 43, descriptorIndex := 44, attributes := #[] }] 49 2 #[] #[])
  fields := #[]
  methods := #[k1m0, k1m1, k1m2, k1m3]
  instanceTypes := #[]
  staticTypes := #[]
  resolved := Array.replicate 47 none
  statics := none }

def pool2 : Array CpInfo := pool [(1, .class_ 2), (0, u "java/lang/constant/Constable"), (0, .class_ 4), (0, u "java/lang/Object")] 6

/-- java/lang/constant/Constable -/
def k2 : Class := { plain "java/lang/constant/Constable" (some 0) with
  accessFlags := 1537
  interfaces := #[]
  cf := some (fileOf pool2 1 #[] #[] 1537 3 #[] #[])
  fields := #[]
  methods := #[]
  instanceTypes := #[]
  staticTypes := #[]
  resolved := Array.replicate 11 none
  statics := none }

def pool3 : Array CpInfo := pool [(1, .class_ 2), (0, u "java/lang/Comparable"), (0, .class_ 4), (0, u "java/lang/Object")] 7

/-- java/lang/Comparable -/
def k3 : Class := { plain "java/lang/Comparable" (some 0) with
  accessFlags := 1537
  interfaces := #[]
  cf := some (fileOf pool3 1 #[] #[] 1537 3 #[] #[])
  fields := #[]
  methods := #[]
  instanceTypes := #[]
  staticTypes := #[]
  resolved := Array.replicate 12 none
  statics := none }

def pool4 : Array CpInfo := pool [(1, .class_ 2), (0, u "java/io/Serializable"), (0, .class_ 4), (0, u "java/lang/Object")] 2

/-- java/io/Serializable -/
def k4 : Class := { plain "java/io/Serializable" (some 0) with
  accessFlags := 1537
  interfaces := #[]
  cf := some (fileOf pool4 1 #[] #[] 1537 3 #[] #[])
  fields := #[]
  methods := #[]
  instanceTypes := #[]
  staticTypes := #[]
  resolved := Array.replicate 7 none
  statics := none }

def pool5 : Array CpInfo := pool [(2, .class_ 4), (1, u "java/lang/Enum"), (0, u "name"), (0, u "Ljava/lang/String;"), (2, u "ordinal"), (0, u "I"), (1, .class_ 14), (1, u "java/lang/Object"), (4, u "hash"), (86, .class_ 108), (1, u "java/lang/Enum$EnumDesc"), (2, .class_ 112), (0, u "java/lang/constant/Constable"), (0, .class_ 114), (0, u "java/lang/Comparable"), (0, .class_ 116), (0, u "java/io/Serializable")] 87

/-- java/lang/Enum -/
def k5 : Class := { plain "java/lang/Enum" (some 0) with
  accessFlags := 1057
  interfaces := #[2, 3, 4]
  cf := some (fileOf pool5 2 #[.nestMembers #[106]] #[] 1057 12 #[111, 113, 115] #[{ accessFlags := 18, nameIndex := 5, descriptorIndex := 6, attributes := #[] }, { accessFlags := 18, nameIndex := 9, descriptorIndex := 10, attributes := #[] }, { accessFlags := 2, nameIndex := 19, descriptorIndex := 10, attributes := #[] }])
  fields := #[{ name := "name", type := (.object "java/lang/String"), accessFlags := 18, slot := 0, constantValue := 0 }, { name := "ordinal", type := .int, accessFlags := 18, slot := 1, constantValue := 0 }, { name := "hash", type := .int, accessFlags := 2, slot := 2, constantValue := 0 }]
  methods := #[]
  instanceTypes := #[(.object "java/lang/String"), .int, .int]
  staticTypes := #[]
  resolved := Array.replicate 204 none
  statics := none }

def pool6 : Array CpInfo := pool [(2, .class_ 4), (1, u "com/example/fir/fir/core/Enumerated"), (33, .class_ 39), (0, u "java/lang/Object")] 14

/-- com/example/fir/fir/core/Enumerated -/
def k6 : Class := { plain "com/example/fir/fir/core/Enumerated" (some 0) with
  accessFlags := 1536
  interfaces := #[]
  cf := some (fileOf pool6 2 #[] #[] 1536 38 #[] #[])
  fields := #[]
  methods := #[]
  instanceTypes := #[]
  staticTypes := #[]
  resolved := Array.replicate 54 none
  statics := none }

def pool7 : Array CpInfo := pool [(1, .class_ 2), (0, u "com/example/fir/fir/core/Partition"), (2, u "DB"), (0, u "Lcom/example/fir/fir/core/Partition;"), (2, u "TX"), (2, u "USER"), (2, u "$VALUES"), (0, u "[Lcom/example/fir/fir/core/Partition;"), (6, .class_ 25), (1, u "java/lang/Enum"), (12, u "of"), (3, u "ident"), (0, u "Lcom/example/fir/fir/edn/Keyword;"), (6, u "first"), (0, u "J"), (0, .fieldref 1 53), (0, .nameAndType 54 16), (0, u "ALL"), (1, .class_ 58), (1, u "com/example/fir/fir/core/Enumerated"), (34, u "NUMBER_BITS"), (0, u "I"), (13, u "(J)Lcom/example/fir/fir/core/Partition;")] 6

def k7c0 : Code := { maxStack := 4, maxLocals := 4, code := prog_37_method_8_code, exceptionTable := #[], attributes := #[] }
def k7m0 : Method := { name := "of", desc := "(J)Lcom/example/fir/fir/core/Partition;", sig := { parameters := [.long], returnType := some (.object "com/example/fir/fir/core/Partition") }, accessFlags := 8, code := some k7c0 }
/-- com/example/fir/fir/core/Partition -/
def k7 : Class := { plain "com/example/fir/fir/core/Partition" (some 5) with
  accessFlags := 16432
  interfaces := #[6]
  cf := some (fileOf pool7 1 #[] #[{ accessFlags := 8, nameIndex := 38, descriptorIndex := 108, attributes := #[] }] 16432 23 #[56] #[{ accessFlags := 16409, nameIndex := 5, descriptorIndex := 6, attributes := #[] }, { accessFlags := 16409, nameIndex := 9, descriptorIndex := 6, attributes := #[] }, { accessFlags := 16409, nameIndex := 12, descriptorIndex := 6, attributes := #[] }, { accessFlags := 24, nameIndex := 93, descriptorIndex := 94, attributes := #[] }, { accessFlags := 26, nameIndex := 54, descriptorIndex := 16, attributes := #[] }, { accessFlags := 18, nameIndex := 42, descriptorIndex := 43, attributes := #[] }, { accessFlags := 18, nameIndex := 50, descriptorIndex := 51, attributes := #[] }, { accessFlags := 4122, nameIndex := 15, descriptorIndex := 16, attributes := #[] }])
  fields := #[{ name := "DB", type := (.object "com/example/fir/fir/core/Partition"), accessFlags := 16409, slot := 0, constantValue := 0 }, { name := "TX", type := (.object "com/example/fir/fir/core/Partition"), accessFlags := 16409, slot := 1, constantValue := 0 }, { name := "USER", type := (.object "com/example/fir/fir/core/Partition"), accessFlags := 16409, slot := 2, constantValue := 0 }, { name := "NUMBER_BITS", type := .int, accessFlags := 24, slot := 3, constantValue := 0 }, { name := "ALL", type := (.array (.object "com/example/fir/fir/core/Partition")), accessFlags := 26, slot := 4, constantValue := 0 }, { name := "ident", type := (.object "com/example/fir/fir/edn/Keyword"), accessFlags := 18, slot := 3, constantValue := 0 }, { name := "first", type := .long, accessFlags := 18, slot := 4, constantValue := 0 }, { name := "$VALUES", type := (.array (.object "com/example/fir/fir/core/Partition")), accessFlags := 4122, slot := 5, constantValue := 0 }]
  methods := #[k7m0]
  instanceTypes := #[(.object "java/lang/String"), .int, .int, (.object "com/example/fir/fir/edn/Keyword"), .long]
  staticTypes := #[(.object "com/example/fir/fir/core/Partition"), (.object "com/example/fir/fir/core/Partition"), (.object "com/example/fir/fir/core/Partition"), .int, (.array (.object "com/example/fir/fir/core/Partition")), (.array (.object "com/example/fir/fir/core/Partition"))]
  resolved := Array.replicate 115 none
  statics := some 0 }

def pool8 : Array CpInfo := pool [(1, u "java/lang/Cloneable"), (0, .class_ 1), (0, u "java/lang/Object"), (0, .class_ 3)] 3

/-- java/lang/Cloneable -/
def k8 : Class := { plain "java/lang/Cloneable" (some 0) with
  accessFlags := 1537
  interfaces := #[]
  cf := some (fileOf pool8 2 #[] #[] 1537 4 #[] #[])
  fields := #[]
  methods := #[]
  instanceTypes := #[]
  staticTypes := #[]
  resolved := Array.replicate 8 none
  statics := none }

/-- the primitive byte -/
def k9 : Class := { plain "byte" none with kind := .primitive 'B', accessFlags := 0x411 }
/-- [B -/
def k10 : Class := { plain "[B" (some 0) with kind := .array 9 .byte, interfaces := #[8, 4], accessFlags := 1041 }

/-- the primitive int -/
def k11 : Class := { plain "int" none with kind := .primitive 'I', accessFlags := 0x411 }
/-- [I -/
def k12 : Class := { plain "[I" (some 0) with kind := .array 11 .int, interfaces := #[8, 4], accessFlags := 1041 }

/-- [Lcom/example/fir/fir/core/Partition; -/
def k13 : Class := { plain "[Lcom/example/fir/fir/core/Partition;" (some 0) with kind := .array 7 (.object "com/example/fir/fir/core/Partition"), interfaces := #[8, 4], accessFlags := 1041 }

def heap : Heap := #[{ cls := 7, slots := #[.ref 2, .ref 3, .ref 4, .int 0, .ref 1, .null], vm := .statics 7 },
  { cls := 13, slots := #[.ref 2, .ref 3, .ref 4], vm := .none },
  { cls := 7, slots := #[.null, .int 0, .int 0, .null, .long 0], vm := .none },
  { cls := 7, slots := #[.null, .int 1, .int 0, .null, .long 0], vm := .none },
  { cls := 7, slots := #[.null, .int 2, .int 0, .null, .long 0], vm := .none }]
def classes : Array Class := #[k0, k1, k2, k3, k4, k5, k6, k7, k8, k9, k10, k11, k12, k13]
def interned : List (Array UInt16 × Addr) := []
def slotsUsed : Nat := 24
def theMethod : MethodId := ⟨1, 3⟩
def args0 : Array Value := #[.long 5, .int 3, .long 1]
def aboutOver (below : List Frame) : State where
  vm := { classes := classes, interned := interned.toArray }
  heap := heap
  slotsUsed := slotsUsed
  threads := #[{ frames := .invoking theMethod args0 :: below }]
def below0 : List Frame := [.native { method := ⟨0, 0⟩, args := #[] }]
def about1 : State := aboutOver below0
def p0 : Program := .bare "" "" ""
def e0 : Env := launch0.env 0 0 0
theorem w_frames : about1.frames = Frame.invoking theMethod args0 :: below0 := rfl
set_option maxRecDepth 65536 in
theorem w_args : argsFit about1.vm theMethod args0 = true := by decide +kernel
set_option maxRecDepth 65536 in
theorem w_heap : heapFits about1 = true := by decide +kernel
set_option maxRecDepth 65536 in
theorem w_runnable : about1.curStatus? = some .runnable := by decide +kernel
set_option maxRecDepth 65536 in
theorem w_alone : about1.alone = true := by decide +kernel
set_option maxRecDepth 65536 in
theorem w_named : about1.methodNamed? x = some theMethod := by decide +kernel
set_option maxRecDepth 65536 in
theorem w_hears : about1.hears theMethod below0 = true := by decide +kernel
set_option maxRecDepth 65536 in
theorem w_ripe : about1.ripe theMethod args0 below0 = true := by decide +kernel
theorem w_running : about1.status = .running := rfl
set_option maxRecDepth 65536 in
theorem w_room : about1.hasRoom e0.platform room_1 = true :=
  launch0.hasRoom_least _ room_1 (by decide +kernel) (by decide +kernel) (by decide +kernel) (by decide +kernel) (by decide +kernel) (by decide +kernel)
theorem allAtoms_all (ts : List Jvm.Cond) (a : Array Jvm.Value) (st : Jvm.State) : (allAtoms ts).before a st = ts.all (fun c => c.before a st) := by
  induction ts with
  | nil => rfl
  | cons c t ih =>
    show (Jvm.Cond.and c (allAtoms t)).before a st = _
    rw [Jvm.Cond.before_and, ih, List.all_cons]
def words1 : List Jvm.Cond := Jvm.Cond.code x code maxLocals ret :: tables_1
/-- a 'code' word, met by the world's own term for the bytes: nothing is compared byte by byte -/
theorem code_word {y : MethodName} {bytes : ByteArray} {mx : Nat} {rt : Option FieldType} {a : Array Value} {s : State} {m : MethodId} {meth : Method} {c : Code} (h1 : s.methodNamed? y = some m) (h2 : s.vm.method? m = some meth) (h3 : meth.code = some c) (h4 : c.code = bytes)
    (h5 : (c.maxLocals == mx && c.exceptionTable.isEmpty && decide (c.maxStack ≤ mostOperands) && decide (meth.sig.returnType = rt) && !meth.locks && decide (parseMethodDescriptor y.desc = some meth.sig)) = true) : (Jvm.Cond.code y bytes mx rt).before a s = true := by
  simp only [Bool.and_eq_true, beq_iff_eq, Bool.not_eq_true', decide_eq_true_eq] at h5
  obtain ⟨⟨⟨⟨⟨g1, g2⟩, g3⟩, g4⟩, g5⟩, g6⟩ := h5
  simp [Cond.before, Cond.holds, Cond.value, h1, h2, h3, h4, g1, g2, g3, g4, g5, g6]
def isCode : Jvm.Cond → Bool
  | .code _ _ _ _ => true
  | _ => false
theorem all_split {L : List Jvm.Cond} {P : Jvm.Cond → Bool} (h1 : L.all (fun c => isCode c || P c) = true) (h2 : ∀ c ∈ L.filter isCode, P c = true) : L.all P = true := by
  refine List.all_eq_true.mpr fun c hc => ?_
  have h := List.all_eq_true.mp h1 c hc
  rcases Bool.eq_false_or_eq_true (isCode c) with hi | hi
  · exact h2 c (List.mem_filter.mpr ⟨hc, hi⟩)
  · simpa [hi] using h
set_option maxRecDepth 65536 in
theorem w_c0 : (Jvm.Cond.code x code maxLocals ret).before args0 about1 = true := code_word (m := ⟨1, 3⟩) (meth := k1m3) (c := k1c3) (by decide +kernel) rfl rfl rfl (by decide +kernel)
set_option maxRecDepth 65536 in
theorem w_c1 : (Jvm.Cond.code ({ cls := "com/example/fir/fir/core/Partition", name := "of", desc := "(J)Lcom/example/fir/fir/core/Partition;" } : Jvm.MethodName) prog_37_method_8_code (4 : Nat) (Option.some (Jvm.ClassFile.FieldType.object "com/example/fir/fir/core/Partition"))).before args0 about1 = true := code_word (m := ⟨7, 0⟩) (meth := k7m0) (c := k7c0) (by decide +kernel) rfl rfl rfl (by decide +kernel)
set_option maxRecDepth 65536 in
theorem w_c2 : (Jvm.Cond.code ({ cls := "com/example/fir/fir/core/PartitionOfPinLaw", name := "byRange", desc := "(J)Lcom/example/fir/fir/core/Partition;" } : Jvm.MethodName) method_2_code (2 : Nat) (Option.some (Jvm.ClassFile.FieldType.object "com/example/fir/fir/core/Partition"))).before args0 about1 = true := code_word (m := ⟨1, 1⟩) (meth := k1m1) (c := k1c1) (by decide +kernel) rfl rfl rfl (by decide +kernel)
set_option maxRecDepth 65536 in
theorem w_c3 : (Jvm.Cond.code ({ cls := "com/example/fir/fir/core/PartitionOfPinLaw", name := "byNumber", desc := "(I)Lcom/example/fir/fir/core/Partition;" } : Jvm.MethodName) method_3_code (1 : Nat) (Option.some (Jvm.ClassFile.FieldType.object "com/example/fir/fir/core/Partition"))).before args0 about1 = true := code_word (m := ⟨1, 2⟩) (meth := k1m2) (c := k1c2) (by decide +kernel) rfl rfl rfl (by decide +kernel)
def codes1 : List Jvm.Cond := [Jvm.Cond.code x code maxLocals ret, Jvm.Cond.code ({ cls := "com/example/fir/fir/core/Partition", name := "of", desc := "(J)Lcom/example/fir/fir/core/Partition;" } : Jvm.MethodName) prog_37_method_8_code (4 : Nat) (Option.some (Jvm.ClassFile.FieldType.object "com/example/fir/fir/core/Partition")), Jvm.Cond.code ({ cls := "com/example/fir/fir/core/PartitionOfPinLaw", name := "byRange", desc := "(J)Lcom/example/fir/fir/core/Partition;" } : Jvm.MethodName) method_2_code (2 : Nat) (Option.some (Jvm.ClassFile.FieldType.object "com/example/fir/fir/core/Partition")), Jvm.Cond.code ({ cls := "com/example/fir/fir/core/PartitionOfPinLaw", name := "byNumber", desc := "(I)Lcom/example/fir/fir/core/Partition;" } : Jvm.MethodName) method_3_code (1 : Nat) (Option.some (Jvm.ClassFile.FieldType.object "com/example/fir/fir/core/Partition"))]
set_option maxRecDepth 65536 in
theorem codes_eq : words1.filter isCode = codes1 := rfl
theorem w_codes : ∀ c ∈ words1.filter isCode, c.before args0 about1 = true := by
  rw [codes_eq]
  intro c hc
  simp only [codes1, List.mem_cons, List.not_mem_nil, or_false] at hc
  rcases hc with rfl | rfl | rfl | rfl
  · exact w_c0
  · exact w_c1
  · exact w_c2
  · exact w_c3
set_option maxRecDepth 65536 in
theorem w_t1 : words1.all (fun c => isCode c || c.before args0 about1) = true := by decide +kernel
theorem w_tables : (allAtoms (Jvm.Cond.code x code maxLocals ret :: tables_1)).before args0 about1 = true := by
  rw [allAtoms_all]
  show words1.all (fun c => c.before args0 about1) = true
  refine all_split ?_ w_codes
  rw [w_t1]
set_option maxRecDepth 65536 in
theorem w_case : (Jvm.Cond.and given_1 narrow_1).before args0 about1 = true := by decide +kernel
theorem w_applies : (headSpec (Jvm.Cond.code x code maxLocals ret :: tables_1) room_1).applies x e0.platform about1 = true :=
  (Spec.applies_iff w_frames).mpr ⟨w_running, w_runnable, w_alone, w_named, w_hears, w_ripe, w_room, w_tables⟩
theorem atStart : AtStart classFile x code maxLocals ret World_1 tables_1 room_1 Calls_1 rest_1 Pre_1 launch0 p0 e0 about1 theMethod args0 below0 :=
  ⟨lists_1, trivial, launch0.admits_env _ _ _, launch0.least_env, fairChoices_fair.cas, fairChoices_fair.clock, w_frames, w_args, w_heap, w_applies, trivial, trivial, w_case⟩
end start1
theorem witness_1 : WitnessClaimed_1 := ⟨start1.p0, start1.e0, start1.about1, start1.theMethod, start1.args0, start1.below0, start1.atStart⟩
end Jvm.Pilot.@@N@@
