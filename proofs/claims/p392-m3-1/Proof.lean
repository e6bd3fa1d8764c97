import JvmDerived
import JvmDerived.Pilot.@@N@@Statement
import JvmDerived.Pilot.@@N@@Code
set_option linter.unusedVariables false
set_option linter.unusedSimpArgs false
namespace Jvm.RoadKit
open Sem ClassFile Op Lib Jvm.Stand Jvm.Free Jvm.LawKit
section New
variable {p : Program} {l : Launch} {e : Env} {R : Room} {s : State} {m : MethodId} {args : Array Value} {below : List Frame} {meth : Method} {c : Code} {T : State} {locs : List Loc} {cells slots : Nat}
theorem retI (X : Stand p l e R s m args below meth c T locs cells slots) (hx : p.tables.exec = Jvm.exec) {pc : Nat} {Ls : Array Slot} {z : Int32} {rest : List Value} (hret : meth.sig.returnType = some .int) (hd : decode c.code pc = .ok (.ireturn, 1)) {fs : List Frame}
    (hl : ∀ (f : JFrame) (acts : List Action), f.method = m → f.locked = none → f.entered = [] → (doReturn e (T.setTop f) acts (some (.int z))).1 = T.setFrames fs) : Steps p.tables e below (T.setTop (mkF m pc Ls (.int z :: rest))) (T.setFrames fs) := by
  have hm' : T.vm.method? m = some meth := X.method'
  have hn : narrow .int (.int z) = .int z := rfl
  show Steps p.tables e below (T.setTop { method := m, pc := pc, locals := Ls, stack := _ :: rest, locked := none }) _
  jvm_step X.here [X.here.top, hx, hd, hm', hret, hn]
  first | (intro acts; rw [hl _ acts rfl rfl rfl]) | rw [hl _ _ rfl rfl rfl]
  exact Steps.refl _
end New
theorem own_sta_keep {Z : State} {h h' : Heap} {C n d : String} {v : Value} {ws : List Addr} (F : Sta Z h C n d v) (K : Keep h h' ws) (q : ∀ x ∈ ws, ∀ c : Cell, h[x]? = some c → c.vm.isStatics = false) : Sta Z h' C n d v := by
  obtain ⟨cf, i, k, f, st, cell, h1, h2, h3, h4, h5, h6, h7⟩ := F
  exact ⟨cf, i, k, f, st, cell, h1, h2, h3, h4, K.2.1 st cell h5 (fun hm => by rw [q st hm cell h5] at h6; cases h6), h6, h7⟩
theorem own_plain_Exa {Z : State} {h : Heap} {a : Addr} {C : String} (F : Exa Z h a C) : ∀ c : Cell, h[a]? = some c → c.vm.isStatics = false := fun c hc => by
  obtain ⟨cell, _, h1, -, -, h4, -⟩ := F
  cases h1.symm.trans hc; exact h4
theorem own_plain_Arv {Z : State} {h : Heap} {a : Addr} {k : ClassId} {ty : FieldType} {n : Int32} {vs : List Value} {d : Value} (F : Arv Z h a k ty n vs d) : ∀ c : Cell, h[a]? = some c → c.vm.isStatics = false := fun c hc => by
  obtain ⟨cell, A, -⟩ := F
  cases A.1.symm.trans hc; exact A.plain
end Jvm.RoadKit
namespace Jvm.Pilot.@@N@@
open Jvm Jvm.ClassFile Sem Op Lib Jvm.Free Jvm.Stand Jvm.LawKit Jvm.RoadKit Bundle Jvm.Pilot.@@N@@.Jvm.D
def bI (P : Prop) [Decidable P] : Int32 := if P then 1 else 0
theorem bI_eq {P Q : Prop} [Decidable P] [Decidable Q] : bI P = bI Q ↔ (P ↔ Q) := by unfold bI; by_cases h : P <;> by_cases g : Q <;> simp [h, g]
theorem bI_eq1 {P : Prop} [Decidable P] : bI P = 1 ↔ P := by unfold bI; by_cases h : P <;> simp [h]
theorem bI_1eq {P : Prop} [Decidable P] : 1 = bI P ↔ P := by unfold bI; by_cases h : P <;> simp [h]
theorem bI_eq0 {P : Prop} [Decidable P] : bI P = 0 ↔ (P ↔ False) := by unfold bI; by_cases h : P <;> simp [h]
theorem bI_0eq {P : Prop} [Decidable P] : 0 = bI P ↔ (False ↔ P) := by unfold bI; by_cases h : P <;> simp [h]
theorem bI_t {P : Prop} [Decidable P] (h : P) : bI P = 1 := if_pos h
theorem bI_f {P : Prop} [Decidable P] (h : ¬ P) : bI P = 0 := if_neg h
theorem bI_iff {P Q : Prop} [Decidable P] [Decidable Q] (h : P ↔ Q) : bI P = bI Q := bI_eq.mpr h
theorem imp_iff_h {P Q : Prop} (h : P) : (P → Q) ↔ Q := ⟨fun f => f h, fun q _ => q⟩
theorem sel_t {P A B : Prop} (h : P) : ((P ∧ A) ∨ (¬ P ∧ B)) ↔ A := ⟨fun q => q.elim (fun z => z.2) (fun z => absurd h z.1), fun a => Or.inl ⟨h, a⟩⟩
theorem sel_f {P A B : Prop} (h : ¬ P) : ((P ∧ A) ∨ (¬ P ∧ B)) ↔ B := ⟨fun q => q.elim (fun z => absurd z.1 h) (fun z => z.2), fun b => Or.inr ⟨h, b⟩⟩
theorem bB_eq_t {P : Prop} [Decidable P] (h : ¬ P) : ifCond.holds .eq (bI P) = true := by rw [bI_f h]; rfl
theorem bB_eq_f {P : Prop} [Decidable P] (h : P) : ifCond.holds .eq (bI P) = false := by rw [bI_t h]; rfl
theorem bB_ne_t {P : Prop} [Decidable P] (h : P) : ifCond.holds .ne (bI P) = true := by rw [bI_t h]; rfl
theorem bB_ne_f {P : Prop} [Decidable P] (h : ¬ P) : ifCond.holds .ne (bI P) = false := by rw [bI_f h]; rfl
theorem bI_nar {P : Prop} [Decidable P] : nar .boolean (bI P) = bI P := by by_cases h : P <;> simp only [bI, h, if_true, if_false] <;> rfl
theorem bI_ret {P : Prop} [Decidable P] : (some (.int (nar .boolean (bI P))) : Option Value) = some (.int (bI P)) := by rw [bI_nar]
theorem bI_one {P : Prop} [Decidable P] (h : P) : (some (.int (nar .boolean (bI P))) : Option Value) = some (.int 1) := by rw [bI_nar, bI_t h]
theorem own_ite_ref {P : Prop} [Decidable P] {x y : Value} (h : x.isRef = true) (g : y.isRef = true) : (if P then x else y).isRef = true := by by_cases q : P <;> simp [q, h, g]
theorem own_fits_ref {t : FieldType} {x : Value} (ht : t.isReference = true) (h : x.isRef = true) : fits t x = true := by cases t <;> first | (cases ht; done) | (cases x <;> simp_all [fits, Value.isRef])
theorem own_eqI {args : Array Value} {s : State} {t : Term} {k : Int32} (h : (Cond.eq t (.int k)).value args s none s [] = some true) : t.eval args s none [] s = some (.int k) := by
  simp only [Cond.value, Term.eval] at h
  cases ht : t.eval args s none [] s with
  | none => simp [ht] at h
  | some v => cases v <;> simp [ht] at h ⊢; exact h
theorem own_eqR {args : Array Value} {s : State} {t u : Term} {v : Value} (hu : u.eval args s none [] s = some v) (hv : v.isRef = true) (h : (Cond.eq t u).value args s none s [] = some true) : t.eval args s none [] s = some v := by
  cases ht : t.eval args s none [] s with
  | none => simp [Cond.value, ht, hu] at h
  | some x =>
    rcases ref_cases hv with rfl | ⟨a, rfl⟩ <;> cases x <;> simp [Cond.value, ht, hu] at h ⊢ <;> exact h
theorem own_len {args : Array Value} {s : State} {t : Term} {a : Addr} {c : Cell} {ty : FieldType} {k : Int32} (ev : t.eval args s none [] s = some (.ref a)) (A : Arr s s.heap a c ty) (h : (Term.length t).eval args s none [] s = some (.int k)) : c.slots.size < 2 ^ 31 ∧ c.slots.size.toInt32 = k := by
  have ha := A.fin (Vm.Alike.refl _)
  by_cases q : c.slots.size < 2 ^ 31
  · rw [len_f ev ha q] at h; exact ⟨q, by injection h with h; injection h⟩
  · simp [Term.eval, ev, ha, q] at h


def own_lh (q1 : Int64) : Int32 := (q1 ^^^ ((q1.toUInt64 >>> ((32 : Int32) &&& 0x3f).toInt64.toUInt64).toInt64)).toInt32
def own_hash (q1 q2 : Int64) : Int32 := (((own_lh q1) * (31 : Int32)) + (own_lh q2))
theorem own_lh_bits (q : Int64) : (own_lh q).toBitVec = (q.toBitVec ^^^ (q.toBitVec >>> 32)).setWidth 32 := by
  have e : ((q.toUInt64 >>> ((32 : Int32) &&& 0x3f).toInt64.toUInt64).toInt64).toBitVec = q.toBitVec >>> 32 := rfl
  show ((q ^^^ ((q.toUInt64 >>> ((32 : Int32) &&& 0x3f).toInt64.toUInt64).toInt64)).toInt32).toBitVec = _
  rw [Int64.toBitVec_toInt32, Int64.toBitVec_xor, e]
  ext i hi
  have h64 : i < 64 := by omega
  simp [BitVec.getElem_signExtend, h64, BitVec.getLsbD_eq_getElem h64]
theorem own_lh_xor (a b : Int64) : own_lh (a ^^^ b) = own_lh a ^^^ own_lh b := by
  refine Int32.toBitVec_inj.mp ?_
  rw [Int32.toBitVec_xor, own_lh_bits, own_lh_bits, own_lh_bits, Int64.toBitVec_xor]
  ext i hi
  simp only [BitVec.getElem_setWidth, BitVec.getLsbD_xor, BitVec.getLsbD_ushiftRight, BitVec.getElem_xor]
  generalize a.toBitVec.getLsbD i = x1
  generalize a.toBitVec.getLsbD (32 + i) = x2
  generalize b.toBitVec.getLsbD i = x3
  generalize b.toBitVec.getLsbD (32 + i) = x4
  cases x1 <;> cases x2 <;> cases x3 <;> cases x4 <;> rfl
theorem own_one : ∀ k : Fin 64, ¬ own_lh ((1 : Int64) <<< Int64.ofBitVec (BitVec.ofNat 64 k.1)) = 0 := by decide +kernel
theorem own_bit (p : Int32) : ¬ own_lh ((1 : Int64) <<< ((p &&& (63 : Int32)) &&& 0x3f).toInt64) = 0 := by
  obtain ⟨h1, h2⟩ := sm64 (p &&& (63 : Int32)) _ rfl
  have e : ((p &&& (63 : Int32)) &&& 0x3f).toInt64 = Int64.ofBitVec (BitVec.ofNat 64 ((p &&& (63 : Int32)).toBitVec.toNat % 64)) := Int64.toBitVec_inj.mp h1
  rw [e]
  exact own_one ⟨_, h2⟩
theorem own_lh_ne (q : Int64) (p : Int32) : ¬ own_lh (q ^^^ ((1 : Int64) <<< ((p &&& (63 : Int32)) &&& 0x3f).toInt64)) = own_lh q := by
  intro h
  rw [own_lh_xor] at h
  refine own_bit p ?_
  have h2 : own_lh q ^^^ (own_lh q ^^^ own_lh ((1 : Int64) <<< ((p &&& (63 : Int32)) &&& 0x3f).toInt64)) = own_lh q ^^^ own_lh q := by rw [h]
  rw [← Int32.xor_assoc, Int32.xor_self, Int32.zero_xor] at h2
  exact h2
theorem own_m31 {x y : Int32} (h : x * 31 = y * 31) : x = y := by
  have k : (x * 31) * 3186588639 = (y * 31) * 3186588639 := by rw [h]
  have e : (31 : Int32) * 3186588639 = 1 := by decide
  rw [Int32.mul_assoc, Int32.mul_assoc, e, Int32.mul_one, Int32.mul_one] at k
  exact k
theorem own_flipH (q1 q2 : Int64) (p : Int32) : ¬ ((own_hash (q1 ^^^ ((1 : Int64) <<< ((p &&& (63 : Int32)) &&& 0x3f).toInt64)) q2) = (own_hash q1 q2)) := by
  intro h
  refine own_lh_ne q1 p (own_m31 ?_)
  unfold own_hash at h
  have g := congrArg (fun z => z - own_lh q2) h
  simpa using g
theorem own_flipL (q1 q2 : Int64) (p : Int32) : ¬ ((own_hash q1 (q2 ^^^ ((1 : Int64) <<< ((p &&& (63 : Int32)) &&& 0x3f).toInt64))) = (own_hash q1 q2)) := by
  intro h
  refine own_lh_ne q2 p ?_
  unfold own_hash at h
  have g := congrArg (fun z => z - own_lh q1 * 31) h
  simpa [Int32.add_comm] using g

theorem d4_0 : decode jdk_35_method_36_code 0 = .ok (.lload_n 0, 1) := by decide +kernel
theorem d4_1 : decode jdk_35_method_36_code 1 = .ok (.lload_n 0, 1) := by decide +kernel
theorem d4_2 : decode jdk_35_method_36_code 2 = .ok (.bipush 32, 2) := by decide +kernel
theorem d4_4 : decode jdk_35_method_36_code 4 = .ok (.lushr, 1) := by decide +kernel
theorem d4_5 : decode jdk_35_method_36_code 5 = .ok (.lxor, 1) := by decide +kernel
theorem d4_6 : decode jdk_35_method_36_code 6 = .ok (.l2i, 1) := by decide +kernel
theorem d4_7 : decode jdk_35_method_36_code 7 = .ok (.ireturn, 1) := by decide +kernel
theorem pn_4 : plainName "java/lang/Long" = true := by first | (simp [plainName, overriddenIn]; done) | decide +kernel
theorem ef_rmL (m : MethodId) (x0 : Int64) : entryFrame m #[(.long x0)] 2 = mkF m 0 #[.val (.long x0), .second] [] := by first | (simp [entryFrame, mkF, argsToLocals, Value.category]; done) | rfl
def QL (Z : State) (q1 : Int64) (h0 : Heap) (n0 : Nat) (v : Option Value) (h : Heap) (L : List Loc) : Prop := v = some (.int (own_lh q1)) ∧ Fr n0 L ∧ h = h0
set_option maxRecDepth 65536 in
set_option maxHeartbeats 40000000 in
theorem rmL (l : Launch) (Z : State) (a0 : Array Value) (hw : ∀ d ∈ tables_1, d.before a0 Z = true) (ws : List Jvm.Cond) (q1 : Int64) (h0 : Heap) (n0 : Nat) (Z0 : n0 ≤ h0.size) :
    MetFree l (⟨"java/lang/Long", "hashCode", "(J)I"⟩ : MethodName) (head1 (Jvm.Cond.code (⟨"java/lang/Long", "hashCode", "(J)I"⟩ : MethodName) jdk_35_method_36_code 2 (some .int) :: ws) ({ frames := 0, cells := 0, slots := 0, locals := 0 } : Room)) (fun ar UU => ar = #[(.long q1)] ∧ Z.Warmed39 UU.vm ∧ UU.heap = h0) (fun _ _ _ _ _ => True) (fun _ UU oo UU' => ∃ vv LL, oo = .returned vv ∧ QL Z q1 h0 n0 vv UU'.heap LL ∧ FrameEnd UU oo UU' LL ({ frames := 0, cells := 0, slots := 0, locals := 0 } : Room).cells ({ frames := 0, cells := 0, slots := 0, locals := 0 } : Room).slots) := by
  refine MetFree.of_bodySF (plainFor_of_name pn_4) hisR ?_
  intro p e s m args below meth c s₁ Bd hml0 hP hK
  obtain ⟨rfl, hZ, hh⟩ := hP
  have hx := Bd.exec
  have hby := Bd.bytes
  have hml : c.maxLocals = 2 := hml0
  have hown : s.vm.findClass "java/lang/Long" = some m.cls := findClass_of_methodNamed Bd.named
  have hnm := (name_of_methodNamed Bd.named Bd.method).1
  have X0 : Stand p l e ({ frames := 0, cells := 0, slots := 0, locals := 0 } : Room) s m #[(.long q1)] below meth c s₁ [] 0 0 := Stand.of_body Bd
  have e0 : s₁.heap = h0 := by rw [← hh, Bd.state]; rfl
  have N0 := Fr.nil n0
  have KC0 : Keep h0 h0 [] := Keep.refl h0 []
  have pre0 : ∀ tgt, Steps p.tables e below (s₁.setTop (mkF m 0 #[.val (.long q1), .second] [])) tgt → Steps p.tables e below (s₁.setTop (entryFrame m #[(.long q1)] 2)) tgt := fun tgt kk => castTop (ef_rmL m (q1)) kk
  obtain ⟨fs, hr, hrun, hended, hW, hsame⟩ := X0.leave (v := some (.int (q1 ^^^ ((q1.toUInt64 >>> ((32 : Int32) &&& 0x3f).toInt64.toUInt64).toInt64)).toInt32)) (fun h => by rw [Bd.returns] at h; cases h)
  refine ⟨_, _, pre0 _ ?_, hrun, hended, _, _, rfl, ?_, ⟨_, rfl⟩, hW, hsame.mono (by decide) (by decide)⟩
  · skip
    refine XS.lloadN X0.here hx rfl (hb hby d4_0) rfl ?_
    show Steps p.tables e below (s₁.setTop (mkF m 1 #[.val (.long q1), .second] [(.long q1)])) _
    refine XS.lloadN X0.here hx rfl (hb hby d4_1) rfl ?_
    show Steps p.tables e below (s₁.setTop (mkF m 2 #[.val (.long q1), .second] [(.long q1), (.long q1)])) _
    refine XS.bipush X0.here hx rfl (hb hby d4_2) ?_
    show Steps p.tables e below (s₁.setTop (mkF m 4 #[.val (.long q1), .second] [(.int (32 : Int32)), (.long q1), (.long q1)])) _
    refine XS.lushr X0.here hx rfl (hb hby d4_4) rfl ?_
    show Steps p.tables e below (s₁.setTop (mkF m 5 #[.val (.long q1), .second] [(.long ((q1.toUInt64 >>> ((32 : Int32) &&& 0x3f).toInt64.toUInt64).toInt64)), (.long q1)])) _
    refine XS.lxor X0.here hx rfl (hb hby d4_5) rfl ?_
    show Steps p.tables e below (s₁.setTop (mkF m 6 #[.val (.long q1), .second] [(.long (q1 ^^^ ((q1.toUInt64 >>> ((32 : Int32) &&& 0x3f).toInt64.toUInt64).toInt64)))])) _
    refine XS.l2i X0.here hx rfl (hb hby d4_6) rfl ?_
    show Steps p.tables e below (s₁.setTop (mkF m 7 #[.val (.long q1), .second] [(.int (q1 ^^^ ((q1.toUInt64 >>> ((32 : Int32) &&& 0x3f).toInt64.toUInt64).toInt64)).toInt32)])) _
    exact retI X0 hx Bd.returns (hb hby d4_7) hr
  · show QL Z q1 h0 n0 _ s₁.heap _
    rw [e0]
    exact ⟨rfl, N0, rfl⟩
theorem d1_0 : decode prog_32_method_1_code 0 = .ok (.aload_n 0, 1) := by decide +kernel
theorem d1_1 : decode prog_32_method_1_code 1 = .ok (.invokespecial 1, 3) := by decide +kernel
theorem d1_4 : decode prog_32_method_1_code 4 = .ok (.aload_n 0, 1) := by decide +kernel
theorem d1_5 : decode prog_32_method_1_code 5 = .ok (.lload_n 1, 1) := by decide +kernel
theorem d1_6 : decode prog_32_method_1_code 6 = .ok (.putfield 7, 3) := by decide +kernel
theorem d1_9 : decode prog_32_method_1_code 9 = .ok (.aload_n 0, 1) := by decide +kernel
theorem d1_10 : decode prog_32_method_1_code 10 = .ok (.lload_n 3, 1) := by decide +kernel
theorem d1_11 : decode prog_32_method_1_code 11 = .ok (.putfield 13, 3) := by decide +kernel
theorem d1_14 : decode prog_32_method_1_code 14 = .ok (.return_, 1) := by decide +kernel
theorem pn_1 : plainName "com/example/postie/postie/store/MessageId" = true := by first | (simp [plainName, overriddenIn]; done) | decide +kernel
theorem ef_rmI (m : MethodId) (x0 : Addr) (x1 : Int64) (x2 : Int64) : entryFrame m #[(.ref x0), (.long x1), (.long x2)] 5 = mkF m 0 #[.val (.ref x0), .val (.long x1), .second, .val (.long x2), .second] [] := by first | (simp [entryFrame, mkF, argsToLocals, Value.category]; done) | rfl
def QI (Z : State) (a : Addr) (q1 : Int64) (q2 : Int64) (h0 : Heap) (n0 : Nat) (v : Option Value) (h : Heap) (L : List Loc) : Prop := v = none ∧ Fr n0 L ∧ Keep h0 h [a] ∧ Fld Z h a "com/example/postie/postie/store/MessageId" "high" "J" (.long q1) ∧ Fld Z h a "com/example/postie/postie/store/MessageId" "low" "J" (.long q2)
set_option maxRecDepth 65536 in
set_option maxHeartbeats 40000000 in
theorem rmI (l : Launch) (Z : State) (a0 : Array Value) (hw : ∀ d ∈ tables_1, d.before a0 Z = true) (ws : List Jvm.Cond) (a : Addr) (q1 : Int64) (q2 : Int64) (h0 : Heap) (n0 : Nat) (Z0 : n0 ≤ h0.size) (E_a : Exa Z h0 a "com/example/postie/postie/store/MessageId") (F_high : Fld Z h0 a "com/example/postie/postie/store/MessageId" "high" "J" (.long (0 : Int64))) (F_low : Fld Z h0 a "com/example/postie/postie/store/MessageId" "low" "J" (.long (0 : Int64))) (g_a : n0 ≤ a) :
    MetFree l (⟨"com/example/postie/postie/store/MessageId", "<init>", "(JJ)V"⟩ : MethodName) (head1 (Jvm.Cond.code (⟨"com/example/postie/postie/store/MessageId", "<init>", "(JJ)V"⟩ : MethodName) prog_32_method_1_code 5 none :: ws) ({ frames := 1, cells := 0, slots := 0, locals := 12 } : Room)) (fun ar UU => ar = #[(.ref a), (.long q1), (.long q2)] ∧ Z.Warmed39 UU.vm ∧ UU.heap = h0) (fun _ _ _ _ _ => True) (fun _ UU oo UU' => ∃ vv LL, oo = .returned vv ∧ QI Z a q1 q2 h0 n0 vv UU'.heap LL ∧ FrameEnd UU oo UU' LL ({ frames := 1, cells := 0, slots := 0, locals := 12 } : Room).cells ({ frames := 1, cells := 0, slots := 0, locals := 12 } : Room).slots) := by
  refine MetFree.of_bodySF (plainFor_of_name pn_1) hisR ?_
  intro p e s m args below meth c s₁ Bd hml0 hP hK
  obtain ⟨rfl, hZ, hh⟩ := hP
  have hx := Bd.exec
  have hby := Bd.bytes
  have hml : c.maxLocals = 5 := hml0
  have hown : s.vm.findClass "com/example/postie/postie/store/MessageId" = some m.cls := findClass_of_methodNamed Bd.named
  have hnm := (name_of_methodNamed Bd.named Bd.method).1
  have X0 : Stand p l e ({ frames := 1, cells := 0, slots := 0, locals := 12 } : Room) s m #[(.ref a), (.long q1), (.long q2)] below meth c s₁ [] 0 0 := Stand.of_body Bd
  have e0 : s₁.heap = h0 := by rw [← hh, Bd.state]; rfl
  have N0 := Fr.nil n0
  have KC0 : Keep h0 h0 [a] := Keep.refl h0 [a]
  have pre0 : ∀ tgt, Steps p.tables e below (s₁.setTop (mkF m 0 #[.val (.ref a), .val (.long q1), .second, .val (.long q2), .second] [])) tgt → Steps p.tables e below (s₁.setTop (entryFrame m #[(.ref a), (.long q1), (.long q2)] 5)) tgt := fun tgt kk => castTop (ef_rmI m (a) (q1) (q2)) kk
  have pre1 : ∀ tgt, Steps p.tables e below (s₁.setTop (mkF m 1 #[.val (.ref a), .val (.long q1), .second, .val (.long q2), .second] [(.ref a)])) tgt → Steps p.tables e below (s₁.setTop (entryFrame m #[(.ref a), (.long q1), (.long q2)] 5)) tgt := by
    intro tgt kk
    refine pre0 tgt ?_
    refine XS.aloadN X0.here hx rfl (hb hby d1_0) rfl rfl ?_
    show Steps p.tables e below (s₁.setTop (mkF m 1 #[.val (.ref a), .val (.long q1), .second, .val (.long q2), .second] [(.ref a)])) _
    exact kk
  obtain ⟨T2, X2, e2, st2⟩ := initO X0 hx hZ hown (hw _ (List.mem_of_getElem? (i := 6) rfl)) (hw _ (List.mem_of_getElem? (i := 7) rfl)) (hw _ (List.mem_of_getElem? (i := 8) rfl)) e0 (g := (mkF m 1 #[.val (.ref a), .val (.long q1), .second, .val (.long q2), .second] [(.ref a)])) rfl (by rw [hml]; rfl) rfl (hb hby d1_1) (by decide) (W := 0) (by show 2 * 0 + _ ≤ _; exact Nat.le_of_eq rfl) (by decide)
  have pre3 : ∀ tgt, Steps p.tables e below (T2.setTop (mkF m 6 #[.val (.ref a), .val (.long q1), .second, .val (.long q2), .second] [(.long q1), (.ref a)])) tgt → Steps p.tables e below (s₁.setTop (entryFrame m #[(.ref a), (.long q1), (.long q2)] 5)) tgt := by
    intro tgt kk
    refine pre1 tgt ?_
    refine st2 _ ?_
    show Steps p.tables e below (T2.setTop (mkF m 4 #[.val (.ref a), .val (.long q1), .second, .val (.long q2), .second] [])) _
    refine XS.aloadN X2.here hx rfl (hb hby d1_4) rfl rfl ?_
    show Steps p.tables e below (T2.setTop (mkF m 5 #[.val (.ref a), .val (.long q1), .second, .val (.long q2), .second] [(.ref a)])) _
    refine XS.lloadN X2.here hx rfl (hb hby d1_5) rfl ?_
    show Steps p.tables e below (T2.setTop (mkF m 6 #[.val (.ref a), .val (.long q1), .second, .val (.long q2), .second] [(.long q1), (.ref a)])) _
    exact kk
  obtain ⟨T4, h4, X4, e4, W4, st4⟩ := putF X2 hx hZ hown (host := "") (Or.inl (hw _ (List.mem_of_getElem? (i := 9) rfl))) Via.refl e2 F_high E_a (Or.inr ⟨(hw _ (List.mem_of_getElem? (i := 10) rfl)), rfl, hnm⟩) (hw _ (List.mem_of_getElem? (i := 1) rfl)) (ty := .long) (by decide) rfl rfl (g := (mkF m 6 #[.val (.ref a), .val (.long q1), .second, .val (.long q2), .second] [(.long q1), (.ref a)])) rfl rfl (hb hby d1_6)
  have N4 := Fr.snoc X4 N0 g_a
  have Fq4 : Fld Z h4 a "com/example/postie/postie/store/MessageId" "high" "J" (.long q1) := F_high.same W4
  have E_a : Exa Z h4 a "com/example/postie/postie/store/MessageId" := E_a.wr W4
  have F_low : Fld Z h4 a "com/example/postie/postie/store/MessageId" "low" "J" (.long (0 : Int64)) := F_low.other W4 (Or.inr (slot_ne (Or.inr (hw _ (List.mem_of_getElem? (i := 12) rfl))) (Or.inr (hw _ (List.mem_of_getElem? (i := 10) rfl))) (by decide) (t := .long) (t' := .long) (by decide) (by decide)))
  have Zs5 : n0 ≤ h4.size := Nat.le_trans Z0 (Keep.of_wr W4).1
  have KC5 : Keep h0 h4 [a] := KC0.wr W4 (Or.inl (List.mem_of_getElem? (i := 0) rfl))
  have F_high := Fq4
  have pre6 : ∀ tgt, Steps p.tables e below (T4.setTop (mkF m 11 #[.val (.ref a), .val (.long q1), .second, .val (.long q2), .second] [(.long q2), (.ref a)])) tgt → Steps p.tables e below (s₁.setTop (entryFrame m #[(.ref a), (.long q1), (.long q2)] 5)) tgt := by
    intro tgt kk
    refine pre3 tgt ?_
    refine st4 _ ?_
    show Steps p.tables e below (T4.setTop (mkF m 9 #[.val (.ref a), .val (.long q1), .second, .val (.long q2), .second] [])) _
    refine XS.aloadN X4.here hx rfl (hb hby d1_9) rfl rfl ?_
    show Steps p.tables e below (T4.setTop (mkF m 10 #[.val (.ref a), .val (.long q1), .second, .val (.long q2), .second] [(.ref a)])) _
    refine XS.lloadN X4.here hx rfl (hb hby d1_10) rfl ?_
    show Steps p.tables e below (T4.setTop (mkF m 11 #[.val (.ref a), .val (.long q1), .second, .val (.long q2), .second] [(.long q2), (.ref a)])) _
    exact kk
  obtain ⟨T7, h7, X7, e7, W7, st7⟩ := putF X4 hx hZ hown (host := "") (Or.inl (hw _ (List.mem_of_getElem? (i := 11) rfl))) Via.refl e4 F_low E_a (Or.inr ⟨(hw _ (List.mem_of_getElem? (i := 12) rfl)), rfl, hnm⟩) (hw _ (List.mem_of_getElem? (i := 1) rfl)) (ty := .long) (by decide) rfl rfl (g := (mkF m 11 #[.val (.ref a), .val (.long q1), .second, .val (.long q2), .second] [(.long q2), (.ref a)])) rfl rfl (hb hby d1_11)
  have N7 := Fr.snoc X7 N4 g_a
  have Fq7 : Fld Z h7 a "com/example/postie/postie/store/MessageId" "low" "J" (.long q2) := F_low.same W7
  have E_a : Exa Z h7 a "com/example/postie/postie/store/MessageId" := E_a.wr W7
  have F_high : Fld Z h7 a "com/example/postie/postie/store/MessageId" "high" "J" (.long q1) := F_high.other W7 (Or.inr (slot_ne (Or.inr (hw _ (List.mem_of_getElem? (i := 10) rfl))) (Or.inr (hw _ (List.mem_of_getElem? (i := 12) rfl))) (by decide) (t := .long) (t' := .long) (by decide) (by decide)))
  have Zs8 : n0 ≤ h7.size := Nat.le_trans Zs5 (Keep.of_wr W7).1
  have KC8 : Keep h0 h7 [a] := KC5.wr W7 (Or.inl (List.mem_of_getElem? (i := 0) rfl))
  have F_low := Fq7
  obtain ⟨fs, hr, hrun, hended, hW, hsame⟩ := X7.leave (v := none) (fun _ => rfl)
  refine ⟨_, _, pre6 _ ?_, hrun, hended, _, _, rfl, ?_, ⟨_, rfl⟩, hW, hsame.mono (by decide) (by decide)⟩
  · skip
    refine st7 _ ?_
    show Steps p.tables e below (T7.setTop (mkF m 14 #[.val (.ref a), .val (.long q1), .second, .val (.long q2), .second] [])) _
    exact X7.returnOut hx Bd.returns (hb hby d1_14) hr
  · show QI Z a q1 q2 h0 n0 _ T7.heap _
    rw [e7]
    exact ⟨rfl, N7, KC8, F_high, F_low⟩
theorem d3_0 : decode prog_32_method_10_code 0 = .ok (.aload_n 0, 1) := by decide +kernel
theorem d3_1 : decode prog_32_method_10_code 1 = .ok (.getfield 7, 3) := by decide +kernel
theorem d3_4 : decode prog_32_method_10_code 4 = .ok (.invokestatic 75, 3) := by decide +kernel
theorem d3_7 : decode prog_32_method_10_code 7 = .ok (.bipush 31, 2) := by decide +kernel
theorem d3_9 : decode prog_32_method_10_code 9 = .ok (.imul, 1) := by decide +kernel
theorem d3_10 : decode prog_32_method_10_code 10 = .ok (.aload_n 0, 1) := by decide +kernel
theorem d3_11 : decode prog_32_method_10_code 11 = .ok (.getfield 13, 3) := by decide +kernel
theorem d3_14 : decode prog_32_method_10_code 14 = .ok (.invokestatic 75, 3) := by decide +kernel
theorem d3_17 : decode prog_32_method_10_code 17 = .ok (.iadd, 1) := by decide +kernel
theorem d3_18 : decode prog_32_method_10_code 18 = .ok (.ireturn, 1) := by decide +kernel
theorem pn_3 : plainName "com/example/postie/postie/store/MessageId" = true := by first | (simp [plainName, overriddenIn]; done) | decide +kernel
theorem pd__J_I : parseMethodDescriptor "(J)I" = some ⟨[.long], some .int⟩ := by decide +kernel
theorem ef_rmH (m : MethodId) (x0 : Addr) : entryFrame m #[(.ref x0)] 1 = mkF m 0 #[.val (.ref x0)] [] := by first | (simp [entryFrame, mkF, argsToLocals, Value.category]; done) | rfl
def QH (Z : State) (a : Addr) (q1 : Int64) (q2 : Int64) (h0 : Heap) (n0 : Nat) (v : Option Value) (h : Heap) (L : List Loc) : Prop := v = some (.int (own_hash q1 q2)) ∧ Fr n0 L ∧ h = h0
set_option maxRecDepth 65536 in
set_option maxHeartbeats 40000000 in
theorem rmH (l : Launch) (Z : State) (a0 : Array Value) (hw : ∀ d ∈ tables_1, d.before a0 Z = true) (ws : List Jvm.Cond) (a : Addr) (q1 : Int64) (q2 : Int64) (h0 : Heap) (n0 : Nat) (Z0 : n0 ≤ h0.size) (F_h : Fld Z h0 a "com/example/postie/postie/store/MessageId" "high" "J" (.long q1)) (F_l : Fld Z h0 a "com/example/postie/postie/store/MessageId" "low" "J" (.long q2)) :
    MetFree l (⟨"com/example/postie/postie/store/MessageId", "hashCode", "()I"⟩ : MethodName) (head1 (Jvm.Cond.code (⟨"com/example/postie/postie/store/MessageId", "hashCode", "()I"⟩ : MethodName) prog_32_method_10_code 1 (some .int) :: ws) ({ frames := 1, cells := 0, slots := 0, locals := 16 } : Room)) (fun ar UU => ar = #[(.ref a)] ∧ Z.Warmed39 UU.vm ∧ UU.heap = h0) (fun _ _ _ _ _ => True) (fun _ UU oo UU' => ∃ vv LL, oo = .returned vv ∧ QH Z a q1 q2 h0 n0 vv UU'.heap LL ∧ FrameEnd UU oo UU' LL ({ frames := 1, cells := 0, slots := 0, locals := 16 } : Room).cells ({ frames := 1, cells := 0, slots := 0, locals := 16 } : Room).slots) := by
  refine MetFree.of_bodySF (plainFor_of_name pn_3) hisR ?_
  intro p e s m args below meth c s₁ Bd hml0 hP hK
  obtain ⟨rfl, hZ, hh⟩ := hP
  have hx := Bd.exec
  have hby := Bd.bytes
  have hml : c.maxLocals = 1 := hml0
  have hown : s.vm.findClass "com/example/postie/postie/store/MessageId" = some m.cls := findClass_of_methodNamed Bd.named
  have hnm := (name_of_methodNamed Bd.named Bd.method).1
  have X0 : Stand p l e ({ frames := 1, cells := 0, slots := 0, locals := 16 } : Room) s m #[(.ref a)] below meth c s₁ [] 0 0 := Stand.of_body Bd
  have e0 : s₁.heap = h0 := by rw [← hh, Bd.state]; rfl
  have N0 := Fr.nil n0
  have KC0 : Keep h0 h0 [] := Keep.refl h0 []
  have pre0 : ∀ tgt, Steps p.tables e below (s₁.setTop (mkF m 0 #[.val (.ref a)] [])) tgt → Steps p.tables e below (s₁.setTop (entryFrame m #[(.ref a)] 1)) tgt := fun tgt kk => castTop (ef_rmH m (a)) kk
  have pre1 : ∀ tgt, Steps p.tables e below (s₁.setTop (mkF m 1 #[.val (.ref a)] [(.ref a)])) tgt → Steps p.tables e below (s₁.setTop (entryFrame m #[(.ref a)] 1)) tgt := by
    intro tgt kk
    refine pre0 tgt ?_
    refine XS.aloadN X0.here hx rfl (hb hby d3_0) rfl rfl ?_
    show Steps p.tables e below (s₁.setTop (mkF m 1 #[.val (.ref a)] [(.ref a)])) _
    exact kk
  obtain ⟨T2, X2, e2, st2⟩ := getF X0 hx hZ hown (host := "") (Or.inl (hw _ (List.mem_of_getElem? (i := 9) rfl))) Via.refl e0 F_h (g := (mkF m 1 #[.val (.ref a)] [(.ref a)])) rfl rfl (hb hby d3_1)
  have pre3 : ∀ tgt, Steps p.tables e below (T2.setTop (mkF m 4 #[.val (.ref a)] [(.long q1)])) tgt → Steps p.tables e below (s₁.setTop (entryFrame m #[(.ref a)] 1)) tgt := by
    intro tgt kk
    refine pre1 tgt ?_
    refine st2 _ ?_
    show Steps p.tables e below (T2.setTop (mkF m 4 #[.val (.ref a)] [(.long q1)])) _
    exact kk
  obtain ⟨_, _, ⟨T4, L4, k4, n4⟩, -, X4, ⟨Lc4, hQ4, l4, y4, z4⟩, st4⟩ := Jvm.LawKit.callS X2 hx (y := (⟨"java/lang/Long", "hashCode", "(J)I"⟩ : MethodName)) hown (mvT hZ (hw _ (List.mem_of_getElem? (i := 18) rfl))) (mvT hZ (hw _ (List.mem_of_getElem? (i := 19) rfl))) (mvT hZ (hw _ (List.mem_of_getElem? (i := 20) rfl))) (mvT hZ (hw _ (List.mem_of_getElem? (i := 21) rfl))) (by decide) (backOf (W := 0) (rmL l Z a0 hw [] (q1) h0 n0 Z0) hZ (hw _ (List.mem_of_getElem? (i := 21) rfl)) (hw _ (List.mem_of_getElem? (i := 20) rfl)) (by decide) (by decide)) (g := (mkF m 4 #[.val (.ref a)] [(.long q1)])) rfl (by rw [hml]; rfl) (argsL := [(.long q1)]) (rest := []) (lenOf pd__J_I rfl) rfl (by show 2 * 0 + _ ≤ _; exact Nat.le_of_eq rfl) (hb hby d3_4) (fun _ _ => ⟨rfl, e2, (by decide : 0 + 0 ≤ _), (by decide : 0 + 0 ≤ _)⟩)
  dsimp only [Pt.U, Pt.locs, Pt.cells, Pt.slots] at X4 l4 y4 z4 st4 hQ4
  subst l4 y4 z4
  obtain ⟨rfl, N4q, hh4⟩ := hQ4
  have N4 := Fr.app N0 N4q
  have pre5 : ∀ tgt, Steps p.tables e below (T4.setTop (mkF m 11 #[.val (.ref a)] [(.ref a), (.int ((own_lh q1) * (31 : Int32)))])) tgt → Steps p.tables e below (s₁.setTop (entryFrame m #[(.ref a)] 1)) tgt := by
    intro tgt kk
    refine pre3 tgt ?_
    refine st4 _ ?_
    show Steps p.tables e below (T4.setTop (mkF m 7 #[.val (.ref a)] [(.int (own_lh q1))])) _
    refine XS.bipush X4.here hx rfl (hb hby d3_7) ?_
    show Steps p.tables e below (T4.setTop (mkF m 9 #[.val (.ref a)] [(.int (31 : Int32)), (.int (own_lh q1))])) _
    refine XS.imul X4.here hx rfl (hb hby d3_9) rfl ?_
    show Steps p.tables e below (T4.setTop (mkF m 10 #[.val (.ref a)] [(.int ((own_lh q1) * (31 : Int32)))])) _
    refine XS.aloadN X4.here hx rfl (hb hby d3_10) rfl rfl ?_
    show Steps p.tables e below (T4.setTop (mkF m 11 #[.val (.ref a)] [(.ref a), (.int ((own_lh q1) * (31 : Int32)))])) _
    exact kk
  obtain ⟨T6, X6, e6, st6⟩ := getF X4 hx hZ hown (host := "") (Or.inl (hw _ (List.mem_of_getElem? (i := 11) rfl))) Via.refl hh4 F_l (g := (mkF m 11 #[.val (.ref a)] [(.ref a), (.int ((own_lh q1) * (31 : Int32)))])) rfl rfl (hb hby d3_11)
  have pre7 : ∀ tgt, Steps p.tables e below (T6.setTop (mkF m 14 #[.val (.ref a)] [(.long q2), (.int ((own_lh q1) * (31 : Int32)))])) tgt → Steps p.tables e below (s₁.setTop (entryFrame m #[(.ref a)] 1)) tgt := by
    intro tgt kk
    refine pre5 tgt ?_
    refine st6 _ ?_
    show Steps p.tables e below (T6.setTop (mkF m 14 #[.val (.ref a)] [(.long q2), (.int ((own_lh q1) * (31 : Int32)))])) _
    exact kk
  obtain ⟨_, _, ⟨T8, L8, k8, n8⟩, -, X8, ⟨Lc8, hQ8, l8, y8, z8⟩, st8⟩ := Jvm.LawKit.callS X6 hx (y := (⟨"java/lang/Long", "hashCode", "(J)I"⟩ : MethodName)) hown (mvT hZ (hw _ (List.mem_of_getElem? (i := 18) rfl))) (mvT hZ (hw _ (List.mem_of_getElem? (i := 19) rfl))) (mvT hZ (hw _ (List.mem_of_getElem? (i := 20) rfl))) (mvT hZ (hw _ (List.mem_of_getElem? (i := 21) rfl))) (by decide) (backOf (W := 1) (rmL l Z a0 hw [] (q2) h0 n0 Z0) hZ (hw _ (List.mem_of_getElem? (i := 21) rfl)) (hw _ (List.mem_of_getElem? (i := 20) rfl)) (by decide) (by decide)) (g := (mkF m 14 #[.val (.ref a)] [(.long q2), (.int ((own_lh q1) * (31 : Int32)))])) rfl (by rw [hml]; rfl) (argsL := [(.long q2)]) (rest := [(.int ((own_lh q1) * (31 : Int32)))]) (lenOf pd__J_I rfl) rfl (by show 2 * 0 + _ ≤ _; exact Nat.le_of_eq rfl) (hb hby d3_14) (fun _ _ => ⟨rfl, e6, (by decide : 0 + 0 ≤ _), (by decide : 0 + 0 ≤ _)⟩)
  dsimp only [Pt.U, Pt.locs, Pt.cells, Pt.slots] at X8 l8 y8 z8 st8 hQ8
  subst l8 y8 z8
  obtain ⟨rfl, N8q, hh8⟩ := hQ8
  have N8 := Fr.app N4 N8q
  obtain ⟨fs, hr, hrun, hended, hW, hsame⟩ := X8.leave (v := some (.int (((own_lh q1) * (31 : Int32)) + (own_lh q2)))) (fun h => by rw [Bd.returns] at h; cases h)
  refine ⟨_, _, pre7 _ ?_, hrun, hended, _, _, rfl, ?_, ⟨_, rfl⟩, hW, hsame.mono (by decide) (by decide)⟩
  · skip
    refine st8 _ ?_
    show Steps p.tables e below (T8.setTop (mkF m 17 #[.val (.ref a)] [(.int (own_lh q2)), (.int ((own_lh q1) * (31 : Int32)))])) _
    refine XS.iadd X8.here hx rfl (hb hby d3_17) rfl ?_
    show Steps p.tables e below (T8.setTop (mkF m 18 #[.val (.ref a)] [(.int (((own_lh q1) * (31 : Int32)) + (own_lh q2)))])) _
    exact retI X8 hx Bd.returns (hb hby d3_18) hr
  · show QH Z a q1 q2 h0 n0 _ T8.heap _
    rw [hh8]
    exact ⟨rfl, N8, rfl⟩
theorem d5_0 : decode prog_32_method_9_code 0 = .ok (.aload_n 1, 1) := by decide +kernel
theorem d5_1 : decode prog_32_method_9_code 1 = .ok (.instanceof 8, 3) := by decide +kernel
theorem d5_4 : decode prog_32_method_9_code 4 = .ok (.ifCond .eq 37, 3) := by decide +kernel
theorem d5_7 : decode prog_32_method_9_code 7 = .ok (.aload_n 1, 1) := by decide +kernel
theorem d5_8 : decode prog_32_method_9_code 8 = .ok (.checkcast 8, 3) := by decide +kernel
theorem d5_11 : decode prog_32_method_9_code 11 = .ok (.getfield 7, 3) := by decide +kernel
theorem d5_14 : decode prog_32_method_9_code 14 = .ok (.aload_n 0, 1) := by decide +kernel
theorem d5_15 : decode prog_32_method_9_code 15 = .ok (.getfield 7, 3) := by decide +kernel
theorem d5_18 : decode prog_32_method_9_code 18 = .ok (.lcmp, 1) := by decide +kernel
theorem d5_19 : decode prog_32_method_9_code 19 = .ok (.ifCond .ne 22, 3) := by decide +kernel
theorem d5_22 : decode prog_32_method_9_code 22 = .ok (.aload_n 1, 1) := by decide +kernel
theorem d5_23 : decode prog_32_method_9_code 23 = .ok (.checkcast 8, 3) := by decide +kernel
theorem d5_26 : decode prog_32_method_9_code 26 = .ok (.getfield 13, 3) := by decide +kernel
theorem d5_29 : decode prog_32_method_9_code 29 = .ok (.aload_n 0, 1) := by decide +kernel
theorem d5_30 : decode prog_32_method_9_code 30 = .ok (.getfield 13, 3) := by decide +kernel
theorem d5_33 : decode prog_32_method_9_code 33 = .ok (.lcmp, 1) := by decide +kernel
theorem d5_34 : decode prog_32_method_9_code 34 = .ok (.ifCond .ne 7, 3) := by decide +kernel
theorem d5_37 : decode prog_32_method_9_code 37 = .ok (.iconst 1, 1) := by decide +kernel
theorem d5_38 : decode prog_32_method_9_code 38 = .ok (.goto 4, 3) := by decide +kernel
theorem d5_41 : decode prog_32_method_9_code 41 = .ok (.iconst 0, 1) := by decide +kernel
theorem d5_42 : decode prog_32_method_9_code 42 = .ok (.ireturn, 1) := by decide +kernel
theorem pn_5 : plainName "com/example/postie/postie/store/MessageId" = true := by first | (simp [plainName, overriddenIn]; done) | decide +kernel
theorem ef_rmE (m : MethodId) (x0 : Addr) (x1 : Addr) : entryFrame m #[(.ref x0), (.ref x1)] 2 = mkF m 0 #[.val (.ref x0), .val (.ref x1)] [] := by first | (simp [entryFrame, mkF, argsToLocals, Value.category]; done) | rfl
def QE (Z : State) (a : Addr) (b : Addr) (q1 : Int64) (q2 : Int64) (r1 : Int64) (r2 : Int64) (h0 : Heap) (n0 : Nat) (v : Option Value) (h : Heap) (L : List Loc) : Prop := v = some (.int (bI ((r1 = q1) ∧ (r2 = q2)))) ∧ Fr n0 L ∧ h = h0
set_option maxRecDepth 65536 in
set_option maxHeartbeats 40000000 in
theorem rmE (l : Launch) (Z : State) (a0 : Array Value) (hw : ∀ d ∈ tables_1, d.before a0 Z = true) (ws : List Jvm.Cond) (a : Addr) (b : Addr) (q1 : Int64) (q2 : Int64) (r1 : Int64) (r2 : Int64) (h0 : Heap) (n0 : Nat) (Z0 : n0 ≤ h0.size) (F_h : Fld Z h0 a "com/example/postie/postie/store/MessageId" "high" "J" (.long q1)) (F_l : Fld Z h0 a "com/example/postie/postie/store/MessageId" "low" "J" (.long q2)) (G_h : Fld Z h0 b "com/example/postie/postie/store/MessageId" "high" "J" (.long r1)) (G_l : Fld Z h0 b "com/example/postie/postie/store/MessageId" "low" "J" (.long r2)) (E_b : Exa Z h0 b "com/example/postie/postie/store/MessageId") :
    MetFree l (⟨"com/example/postie/postie/store/MessageId", "equals", "(Ljava/lang/Object;)Z"⟩ : MethodName) (head1 (Jvm.Cond.code (⟨"com/example/postie/postie/store/MessageId", "equals", "(Ljava/lang/Object;)Z"⟩ : MethodName) prog_32_method_9_code 2 (some .boolean) :: ws) ({ frames := 0, cells := 0, slots := 0, locals := 0 } : Room)) (fun ar UU => ar = #[(.ref a), (.ref b)] ∧ Z.Warmed39 UU.vm ∧ UU.heap = h0) (fun _ _ _ _ _ => True) (fun _ UU oo UU' => ∃ vv LL, oo = .returned vv ∧ QE Z a b q1 q2 r1 r2 h0 n0 vv UU'.heap LL ∧ FrameEnd UU oo UU' LL ({ frames := 0, cells := 0, slots := 0, locals := 0 } : Room).cells ({ frames := 0, cells := 0, slots := 0, locals := 0 } : Room).slots) := by
  refine MetFree.of_bodySF (plainFor_of_name pn_5) hisR ?_
  intro p e s m args below meth c s₁ Bd hml0 hP hK
  obtain ⟨rfl, hZ, hh⟩ := hP
  have hx := Bd.exec
  have hby := Bd.bytes
  have hml : c.maxLocals = 2 := hml0
  have hown : s.vm.findClass "com/example/postie/postie/store/MessageId" = some m.cls := findClass_of_methodNamed Bd.named
  have hnm := (name_of_methodNamed Bd.named Bd.method).1
  have X0 : Stand p l e ({ frames := 0, cells := 0, slots := 0, locals := 0 } : Room) s m #[(.ref a), (.ref b)] below meth c s₁ [] 0 0 := Stand.of_body Bd
  have e0 : s₁.heap = h0 := by rw [← hh, Bd.state]; rfl
  have N0 := Fr.nil n0
  have KC0 : Keep h0 h0 [] := Keep.refl h0 []
  have pre0 : ∀ tgt, Steps p.tables e below (s₁.setTop (mkF m 0 #[.val (.ref a), .val (.ref b)] [])) tgt → Steps p.tables e below (s₁.setTop (entryFrame m #[(.ref a), (.ref b)] 2)) tgt := fun tgt kk => castTop (ef_rmE m (a) (b)) kk
  have pre1 : ∀ tgt, Steps p.tables e below (s₁.setTop (mkF m 1 #[.val (.ref a), .val (.ref b)] [(.ref b)])) tgt → Steps p.tables e below (s₁.setTop (entryFrame m #[(.ref a), (.ref b)] 2)) tgt := by
    intro tgt kk
    refine pre0 tgt ?_
    refine XS.aloadN X0.here hx rfl (hb hby d5_0) rfl rfl ?_
    show Steps p.tables e below (s₁.setTop (mkF m 1 #[.val (.ref a), .val (.ref b)] [(.ref b)])) _
    exact kk
  obtain ⟨T2, X2, e2, st2⟩ := instY X0 hx hZ hown (hw _ (List.mem_of_getElem? (i := 27) rfl)) e0 (Ins.self E_b) (g := (mkF m 1 #[.val (.ref a), .val (.ref b)] [(.ref b)])) rfl rfl (hb hby d5_1)
  have pre3 : ∀ tgt, Steps p.tables e below (T2.setTop (mkF m 8 #[.val (.ref a), .val (.ref b)] [(.ref b)])) tgt → Steps p.tables e below (s₁.setTop (entryFrame m #[(.ref a), (.ref b)] 2)) tgt := by
    intro tgt kk
    refine pre1 tgt ?_
    refine st2 _ ?_
    show Steps p.tables e below (T2.setTop (mkF m 4 #[.val (.ref a), .val (.ref b)] [(.int (1 : Int32))])) _
    refine XS.ifNo X2.here hx rfl (hb hby d5_4) rfl (XT.i0_eq_f (by decide)) ?_
    show Steps p.tables e below (T2.setTop (mkF m 7 #[.val (.ref a), .val (.ref b)] [])) _
    refine XS.aloadN X2.here hx rfl (hb hby d5_7) rfl rfl ?_
    show Steps p.tables e below (T2.setTop (mkF m 8 #[.val (.ref a), .val (.ref b)] [(.ref b)])) _
    exact kk
  obtain ⟨T4, X4, e4, st4⟩ := castY X2 hx hZ hown (hw _ (List.mem_of_getElem? (i := 27) rfl)) e2 (Ins.self E_b) (g := (mkF m 8 #[.val (.ref a), .val (.ref b)] [(.ref b)])) rfl rfl (hb hby d5_8)
  have pre5 : ∀ tgt, Steps p.tables e below (T4.setTop (mkF m 11 #[.val (.ref a), .val (.ref b)] [(.ref b)])) tgt → Steps p.tables e below (s₁.setTop (entryFrame m #[(.ref a), (.ref b)] 2)) tgt := by
    intro tgt kk
    refine pre3 tgt ?_
    refine st4 _ ?_
    show Steps p.tables e below (T4.setTop (mkF m 11 #[.val (.ref a), .val (.ref b)] [(.ref b)])) _
    exact kk
  obtain ⟨T6, X6, e6, st6⟩ := getF X4 hx hZ hown (host := "") (Or.inl (hw _ (List.mem_of_getElem? (i := 9) rfl))) Via.refl e4 G_h (g := (mkF m 11 #[.val (.ref a), .val (.ref b)] [(.ref b)])) rfl rfl (hb hby d5_11)
  have pre7 : ∀ tgt, Steps p.tables e below (T6.setTop (mkF m 15 #[.val (.ref a), .val (.ref b)] [(.ref a), (.long r1)])) tgt → Steps p.tables e below (s₁.setTop (entryFrame m #[(.ref a), (.ref b)] 2)) tgt := by
    intro tgt kk
    refine pre5 tgt ?_
    refine st6 _ ?_
    show Steps p.tables e below (T6.setTop (mkF m 14 #[.val (.ref a), .val (.ref b)] [(.long r1)])) _
    refine XS.aloadN X6.here hx rfl (hb hby d5_14) rfl rfl ?_
    show Steps p.tables e below (T6.setTop (mkF m 15 #[.val (.ref a), .val (.ref b)] [(.ref a), (.long r1)])) _
    exact kk
  obtain ⟨T8, X8, e8, st8⟩ := getF X6 hx hZ hown (host := "") (Or.inl (hw _ (List.mem_of_getElem? (i := 9) rfl))) Via.refl e6 F_h (g := (mkF m 15 #[.val (.ref a), .val (.ref b)] [(.ref a), (.long r1)])) rfl rfl (hb hby d5_15)
  have pre9 : ∀ tgt, Steps p.tables e below (T8.setTop (mkF m 19 #[.val (.ref a), .val (.ref b)] [(.int (lcmpW r1 q1))])) tgt → Steps p.tables e below (s₁.setTop (entryFrame m #[(.ref a), (.ref b)] 2)) tgt := by
    intro tgt kk
    refine pre7 tgt ?_
    refine st8 _ ?_
    show Steps p.tables e below (T8.setTop (mkF m 18 #[.val (.ref a), .val (.ref b)] [(.long q1), (.long r1)])) _
    refine XS.lcmp X8.here hx rfl (hb hby d5_18) rfl ?_
    show Steps p.tables e below (T8.setTop (mkF m 19 #[.val (.ref a), .val (.ref b)] [(.int (lcmpW r1 q1))])) _
    exact kk
  obtain ⟨T19, lo19, X19, N19, e19, pre19⟩ : ∃ (T' : State) (lo : List Loc), Stand p l e ({ frames := 0, cells := 0, slots := 0, locals := 0 } : Room) s m #[(.ref a), (.ref b)] below meth c T' lo 0 0 ∧ Fr n0 lo ∧ T'.heap = h0 ∧ ∀ tgt, Steps p.tables e below (T'.setTop (mkF m 42 #[.val (.ref a), .val (.ref b)] [(.int (bI ((r1 = q1) ∧ (r2 = q2))))])) tgt → Steps p.tables e below (s₁.setTop (entryFrame m #[(.ref a), (.ref b)] 2)) tgt := by
    by_cases hc19_10 : r1 = q1
    · skip
      have pre11 : ∀ tgt, Steps p.tables e below (T8.setTop (mkF m 23 #[.val (.ref a), .val (.ref b)] [(.ref b)])) tgt → Steps p.tables e below (s₁.setTop (entryFrame m #[(.ref a), (.ref b)] 2)) tgt := by
        intro tgt kk
        refine pre9 tgt ?_
        refine XS.ifNo X8.here hx rfl (hb hby d5_19) rfl (XT.ll_ne_f hc19_10) ?_
        show Steps p.tables e below (T8.setTop (mkF m 22 #[.val (.ref a), .val (.ref b)] [])) _
        refine XS.aloadN X8.here hx rfl (hb hby d5_22) rfl rfl ?_
        show Steps p.tables e below (T8.setTop (mkF m 23 #[.val (.ref a), .val (.ref b)] [(.ref b)])) _
        exact kk
      obtain ⟨T12, X12, e12, st12⟩ := castY X8 hx hZ hown (hw _ (List.mem_of_getElem? (i := 27) rfl)) e8 (Ins.self E_b) (g := (mkF m 23 #[.val (.ref a), .val (.ref b)] [(.ref b)])) rfl rfl (hb hby d5_23)
      have pre13 : ∀ tgt, Steps p.tables e below (T12.setTop (mkF m 26 #[.val (.ref a), .val (.ref b)] [(.ref b)])) tgt → Steps p.tables e below (s₁.setTop (entryFrame m #[(.ref a), (.ref b)] 2)) tgt := by
        intro tgt kk
        refine pre11 tgt ?_
        refine st12 _ ?_
        show Steps p.tables e below (T12.setTop (mkF m 26 #[.val (.ref a), .val (.ref b)] [(.ref b)])) _
        exact kk
      obtain ⟨T14, X14, e14, st14⟩ := getF X12 hx hZ hown (host := "") (Or.inl (hw _ (List.mem_of_getElem? (i := 11) rfl))) Via.refl e12 G_l (g := (mkF m 26 #[.val (.ref a), .val (.ref b)] [(.ref b)])) rfl rfl (hb hby d5_26)
      have pre15 : ∀ tgt, Steps p.tables e below (T14.setTop (mkF m 30 #[.val (.ref a), .val (.ref b)] [(.ref a), (.long r2)])) tgt → Steps p.tables e below (s₁.setTop (entryFrame m #[(.ref a), (.ref b)] 2)) tgt := by
        intro tgt kk
        refine pre13 tgt ?_
        refine st14 _ ?_
        show Steps p.tables e below (T14.setTop (mkF m 29 #[.val (.ref a), .val (.ref b)] [(.long r2)])) _
        refine XS.aloadN X14.here hx rfl (hb hby d5_29) rfl rfl ?_
        show Steps p.tables e below (T14.setTop (mkF m 30 #[.val (.ref a), .val (.ref b)] [(.ref a), (.long r2)])) _
        exact kk
      obtain ⟨T16, X16, e16, st16⟩ := getF X14 hx hZ hown (host := "") (Or.inl (hw _ (List.mem_of_getElem? (i := 11) rfl))) Via.refl e14 F_l (g := (mkF m 30 #[.val (.ref a), .val (.ref b)] [(.ref a), (.long r2)])) rfl rfl (hb hby d5_30)
      have pre17 : ∀ tgt, Steps p.tables e below (T16.setTop (mkF m 34 #[.val (.ref a), .val (.ref b)] [(.int (lcmpW r2 q2))])) tgt → Steps p.tables e below (s₁.setTop (entryFrame m #[(.ref a), (.ref b)] 2)) tgt := by
        intro tgt kk
        refine pre15 tgt ?_
        refine st16 _ ?_
        show Steps p.tables e below (T16.setTop (mkF m 33 #[.val (.ref a), .val (.ref b)] [(.long q2), (.long r2)])) _
        refine XS.lcmp X16.here hx rfl (hb hby d5_33) rfl ?_
        show Steps p.tables e below (T16.setTop (mkF m 34 #[.val (.ref a), .val (.ref b)] [(.int (lcmpW r2 q2))])) _
        exact kk
      by_cases hc34_18 : r2 = q2
      · skip
        refine ⟨T16, _, X16, N0, e16, fun tgt kk => ?_⟩
        have kq20 : ((.int (bI ((r1 = q1) ∧ (r2 = q2)))) : Value) = (.int (1 : Int32)) := ((congrArg Value.int (bI_iff (and_iff_right hc19_10))).trans (congrArg Value.int (bI_t hc34_18)))
        rw [kq20] at kk
        refine pre17 tgt ?_
        refine XS.ifNo X16.here hx rfl (hb hby d5_34) rfl (XT.ll_ne_f hc34_18) ?_
        show Steps p.tables e below (T16.setTop (mkF m 37 #[.val (.ref a), .val (.ref b)] [])) _
        refine XS.iconst X16.here hx rfl (hb hby d5_37) ?_
        show Steps p.tables e below (T16.setTop (mkF m 38 #[.val (.ref a), .val (.ref b)] [(.int (1 : Int32))])) _
        refine XS.goto X16.here hx rfl (pc0 := 38) (pc' := 42) rfl (hb hby d5_38) (by decide) (by decide) ?_
        show Steps p.tables e below (T16.setTop (mkF m 42 #[.val (.ref a), .val (.ref b)] [(.int (1 : Int32))])) _
        exact kk
      · skip
        refine ⟨T16, _, X16, N0, e16, fun tgt kk => ?_⟩
        have kq21 : ((.int (bI ((r1 = q1) ∧ (r2 = q2)))) : Value) = (.int (0 : Int32)) := ((congrArg Value.int (bI_iff (and_iff_right hc19_10))).trans (congrArg Value.int (bI_f hc34_18)))
        rw [kq21] at kk
        refine pre17 tgt ?_
        refine XS.ifYes X16.here hx rfl (pc0 := 34) (pc' := 41) rfl (hb hby d5_34) rfl (XT.ll_ne_t hc34_18) (by decide) (by decide) ?_
        show Steps p.tables e below (T16.setTop (mkF m 41 #[.val (.ref a), .val (.ref b)] [])) _
        refine XS.iconst X16.here hx rfl (hb hby d5_41) ?_
        show Steps p.tables e below (T16.setTop (mkF m 42 #[.val (.ref a), .val (.ref b)] [(.int (0 : Int32))])) _
        exact kk
    · skip
      refine ⟨T8, _, X8, N0, e8, fun tgt kk => ?_⟩
      have kq22 : ((.int (bI ((r1 = q1) ∧ (r2 = q2)))) : Value) = (.int (0 : Int32)) := (congrArg Value.int (bI_f (fun q => hc19_10 q.1)))
      rw [kq22] at kk
      refine pre9 tgt ?_
      refine XS.ifYes X8.here hx rfl (pc0 := 19) (pc' := 41) rfl (hb hby d5_19) rfl (XT.ll_ne_t hc19_10) (by decide) (by decide) ?_
      show Steps p.tables e below (T8.setTop (mkF m 41 #[.val (.ref a), .val (.ref b)] [])) _
      refine XS.iconst X8.here hx rfl (hb hby d5_41) ?_
      show Steps p.tables e below (T8.setTop (mkF m 42 #[.val (.ref a), .val (.ref b)] [(.int (0 : Int32))])) _
      exact kk
  obtain ⟨fs, hr, hrun, hended, hW, hsame⟩ := X19.leave (v := some (.int (nar .boolean (bI ((r1 = q1) ∧ (r2 = q2)))))) (fun h => by rw [Bd.returns] at h; cases h)
  refine ⟨_, _, pre19 _ ?_, hrun, hended, _, _, rfl, ?_, ⟨_, rfl⟩, hW, hsame.mono (by decide) (by decide)⟩
  · skip
    exact retN X19 hx (t := .boolean) Bd.returns (by simp) (hb hby d5_42) hr
  · show QE Z a b q1 q2 r1 r2 h0 n0 _ T19.heap _
    rw [e19]
    exact ⟨bI_ret, N19, rfl⟩
theorem pn_0 : plainName "com/example/postie/postie/store/MessageIdHashCodePinLaw" = true := by first | (simp [plainName, overriddenIn]; done) | decide +kernel
theorem pd__JJ_V : parseMethodDescriptor "(JJ)V" = some ⟨[.long, .long], none⟩ := by decide +kernel
theorem pd___I : parseMethodDescriptor "()I" = some ⟨[], some .int⟩ := by decide +kernel
theorem pd__Ljava_lang_Object__Z : parseMethodDescriptor "(Ljava/lang/Object;)Z" = some ⟨[(.object "java/lang/Object")], some .boolean⟩ := by decide +kernel
theorem ef_rm0 (m : MethodId) (x0 : Int64) (x1 : Int64) (x2 : Int32) : entryFrame m #[(.long x0), (.long x1), (.int x2)] maxLocals = mkF m 0 #[.val (.long x0), .second, .val (.long x1), .second, .val (.int x2), .unset, .unset, .unset, .unset, .unset, .unset, .unset, .unset, .unset, .unset, .unset] [] := by first | (simp [entryFrame, mkF, argsToLocals, Value.category, maxLocals]; done) | rfl
def Q0 (Z : State) (q1 : Int64) (q2 : Int64) (p3 : Int32) (h0 : Heap) (n0 : Nat) (v : Option Value) (h : Heap) (L : List Loc) : Prop := v = some (.int (1 : Int32)) ∧ Fr n0 L
set_option maxRecDepth 65536 in
set_option maxHeartbeats 40000000 in
theorem rm0 (l : Launch) (Z : State) (a0 : Array Value) (hw : ∀ d ∈ tables_1, d.before a0 Z = true) (ws : List Jvm.Cond) (q1 : Int64) (q2 : Int64) (p3 : Int32) (h0 : Heap) (n0 : Nat) (Z0 : n0 ≤ h0.size) :
    MetFree l x (head1 (Jvm.Cond.code x code maxLocals ret :: ws) room_1) (fun ar UU => ar = #[(.long q1), (.long q2), (.int p3)] ∧ Z.Warmed39 UU.vm ∧ UU.heap = h0) (fun _ _ _ _ _ => True) (fun _ UU oo UU' => ∃ vv LL, oo = .returned vv ∧ Q0 Z q1 q2 p3 h0 n0 vv UU'.heap LL ∧ FrameEnd UU oo UU' LL room_1.cells room_1.slots) := by
  refine MetFree.of_bodySF (plainFor_of_name pn_0) hisR ?_
  intro p e s m args below meth c s₁ Bd hml0 hP hK
  obtain ⟨rfl, hZ, hh⟩ := hP
  have hx := Bd.exec
  have hby := Bd.bytes
  have hml : c.maxLocals = 16 := hml0
  have hown : s.vm.findClass "com/example/postie/postie/store/MessageIdHashCodePinLaw" = some m.cls := findClass_of_methodNamed Bd.named
  have hnm := (name_of_methodNamed Bd.named Bd.method).1
  have X0 : Stand p l e room_1 s m #[(.long q1), (.long q2), (.int p3)] below meth c s₁ [] 0 0 := Stand.of_body Bd
  have e0 : s₁.heap = h0 := by rw [← hh, Bd.state]; rfl
  have N0 := Fr.nil n0
  have KC0 : Keep h0 h0 [] := Keep.refl h0 []
  have pre0 : ∀ tgt, Steps p.tables e below (s₁.setTop (mkF m 0 #[.val (.long q1), .second, .val (.long q2), .second, .val (.int p3), .unset, .unset, .unset, .unset, .unset, .unset, .unset, .unset, .unset, .unset, .unset] [])) tgt → Steps p.tables e below (s₁.setTop (entryFrame m #[(.long q1), (.long q2), (.int p3)] maxLocals)) tgt := fun tgt kk => castTop (ef_rm0 m (q1) (q2) (p3)) kk
  have pre1 : ∀ tgt, Steps p.tables e below (s₁.setTop (mkF m 20 #[.val (.long q1), .second, .val (.long q2), .second, .val (.int p3), .val (.int (p3 &&& (63 : Int32))), .val (.long ((1 : Int64) <<< ((p3 &&& (63 : Int32)) &&& 0x3f).toInt64)), .second, .unset, .unset, .unset, .unset, .unset, .unset, .unset, .unset] [(.int (((p3.toUInt32 >>> ((6 : Int32) &&& 31).toUInt32).toInt32) &&& (1 : Int32)))])) tgt → Steps p.tables e below (s₁.setTop (entryFrame m #[(.long q1), (.long q2), (.int p3)] maxLocals)) tgt := by
    intro tgt kk
    refine pre0 tgt ?_
    refine XS.iload X0.here hx rfl (hb hby at_0) rfl ?_
    show Steps p.tables e below (s₁.setTop (mkF m 2 #[.val (.long q1), .second, .val (.long q2), .second, .val (.int p3), .unset, .unset, .unset, .unset, .unset, .unset, .unset, .unset, .unset, .unset, .unset] [(.int p3)])) _
    refine XS.bipush X0.here hx rfl (hb hby at_2) ?_
    show Steps p.tables e below (s₁.setTop (mkF m 4 #[.val (.long q1), .second, .val (.long q2), .second, .val (.int p3), .unset, .unset, .unset, .unset, .unset, .unset, .unset, .unset, .unset, .unset, .unset] [(.int (63 : Int32)), (.int p3)])) _
    refine XS.iand X0.here hx rfl (hb hby at_4) rfl ?_
    show Steps p.tables e below (s₁.setTop (mkF m 5 #[.val (.long q1), .second, .val (.long q2), .second, .val (.int p3), .unset, .unset, .unset, .unset, .unset, .unset, .unset, .unset, .unset, .unset, .unset] [(.int (p3 &&& (63 : Int32)))])) _
    refine XS.istore X0.here hx rfl (hb hby at_5) rfl (l' := #[.val (.long q1), .second, .val (.long q2), .second, .val (.int p3), .val (.int (p3 &&& (63 : Int32))), .unset, .unset, .unset, .unset, .unset, .unset, .unset, .unset, .unset, .unset]) rfl ?_
    show Steps p.tables e below (s₁.setTop (mkF m 7 #[.val (.long q1), .second, .val (.long q2), .second, .val (.int p3), .val (.int (p3 &&& (63 : Int32))), .unset, .unset, .unset, .unset, .unset, .unset, .unset, .unset, .unset, .unset] [])) _
    refine XS.lconst X0.here hx rfl (hb hby at_7) ?_
    show Steps p.tables e below (s₁.setTop (mkF m 8 #[.val (.long q1), .second, .val (.long q2), .second, .val (.int p3), .val (.int (p3 &&& (63 : Int32))), .unset, .unset, .unset, .unset, .unset, .unset, .unset, .unset, .unset, .unset] [(.long (1 : Int64))])) _
    refine XS.iload X0.here hx rfl (hb hby at_8) rfl ?_
    show Steps p.tables e below (s₁.setTop (mkF m 10 #[.val (.long q1), .second, .val (.long q2), .second, .val (.int p3), .val (.int (p3 &&& (63 : Int32))), .unset, .unset, .unset, .unset, .unset, .unset, .unset, .unset, .unset, .unset] [(.int (p3 &&& (63 : Int32))), (.long (1 : Int64))])) _
    refine XS.lshl X0.here hx rfl (hb hby at_10) rfl ?_
    show Steps p.tables e below (s₁.setTop (mkF m 11 #[.val (.long q1), .second, .val (.long q2), .second, .val (.int p3), .val (.int (p3 &&& (63 : Int32))), .unset, .unset, .unset, .unset, .unset, .unset, .unset, .unset, .unset, .unset] [(.long ((1 : Int64) <<< ((p3 &&& (63 : Int32)) &&& 0x3f).toInt64))])) _
    refine XS.lstore X0.here hx rfl (hb hby at_11) rfl (l' := #[.val (.long q1), .second, .val (.long q2), .second, .val (.int p3), .val (.int (p3 &&& (63 : Int32))), .val (.long ((1 : Int64) <<< ((p3 &&& (63 : Int32)) &&& 0x3f).toInt64)), .second, .unset, .unset, .unset, .unset, .unset, .unset, .unset, .unset]) rfl ?_
    show Steps p.tables e below (s₁.setTop (mkF m 13 #[.val (.long q1), .second, .val (.long q2), .second, .val (.int p3), .val (.int (p3 &&& (63 : Int32))), .val (.long ((1 : Int64) <<< ((p3 &&& (63 : Int32)) &&& 0x3f).toInt64)), .second, .unset, .unset, .unset, .unset, .unset, .unset, .unset, .unset] [])) _
    refine XS.iload X0.here hx rfl (hb hby at_13) rfl ?_
    show Steps p.tables e below (s₁.setTop (mkF m 15 #[.val (.long q1), .second, .val (.long q2), .second, .val (.int p3), .val (.int (p3 &&& (63 : Int32))), .val (.long ((1 : Int64) <<< ((p3 &&& (63 : Int32)) &&& 0x3f).toInt64)), .second, .unset, .unset, .unset, .unset, .unset, .unset, .unset, .unset] [(.int p3)])) _
    refine XS.bipush X0.here hx rfl (hb hby at_15) ?_
    show Steps p.tables e below (s₁.setTop (mkF m 17 #[.val (.long q1), .second, .val (.long q2), .second, .val (.int p3), .val (.int (p3 &&& (63 : Int32))), .val (.long ((1 : Int64) <<< ((p3 &&& (63 : Int32)) &&& 0x3f).toInt64)), .second, .unset, .unset, .unset, .unset, .unset, .unset, .unset, .unset] [(.int (6 : Int32)), (.int p3)])) _
    refine XS.iushr X0.here hx rfl (hb hby at_17) rfl ?_
    show Steps p.tables e below (s₁.setTop (mkF m 18 #[.val (.long q1), .second, .val (.long q2), .second, .val (.int p3), .val (.int (p3 &&& (63 : Int32))), .val (.long ((1 : Int64) <<< ((p3 &&& (63 : Int32)) &&& 0x3f).toInt64)), .second, .unset, .unset, .unset, .unset, .unset, .unset, .unset, .unset] [(.int ((p3.toUInt32 >>> ((6 : Int32) &&& 31).toUInt32).toInt32))])) _
    refine XS.iconst X0.here hx rfl (hb hby at_18) ?_
    show Steps p.tables e below (s₁.setTop (mkF m 19 #[.val (.long q1), .second, .val (.long q2), .second, .val (.int p3), .val (.int (p3 &&& (63 : Int32))), .val (.long ((1 : Int64) <<< ((p3 &&& (63 : Int32)) &&& 0x3f).toInt64)), .second, .unset, .unset, .unset, .unset, .unset, .unset, .unset, .unset] [(.int (1 : Int32)), (.int ((p3.toUInt32 >>> ((6 : Int32) &&& 31).toUInt32).toInt32))])) _
    refine XS.iand X0.here hx rfl (hb hby at_19) rfl ?_
    show Steps p.tables e below (s₁.setTop (mkF m 20 #[.val (.long q1), .second, .val (.long q2), .second, .val (.int p3), .val (.int (p3 &&& (63 : Int32))), .val (.long ((1 : Int64) <<< ((p3 &&& (63 : Int32)) &&& 0x3f).toInt64)), .second, .unset, .unset, .unset, .unset, .unset, .unset, .unset, .unset] [(.int (((p3.toUInt32 >>> ((6 : Int32) &&& 31).toUInt32).toInt32) &&& (1 : Int32)))])) _
    exact kk
  obtain ⟨T3, lo3, X3, N3, e3, pre3⟩ : ∃ (T' : State) (lo : List Loc), Stand p l e room_1 s m #[(.long q1), (.long q2), (.int p3)] below meth c T' lo 0 0 ∧ Fr n0 lo ∧ T'.heap = h0 ∧ ∀ tgt, Steps p.tables e below (T'.setTop (mkF m 28 #[.val (.long q1), .second, .val (.long q2), .second, .val (.int p3), .val (.int (p3 &&& (63 : Int32))), .val (.long ((1 : Int64) <<< ((p3 &&& (63 : Int32)) &&& 0x3f).toInt64)), .second, .unset, .unset, .unset, .unset, .unset, .unset, .unset, .unset] [(.int (bI (¬ ((((p3.toUInt32 >>> ((6 : Int32) &&& 31).toUInt32).toInt32) &&& (1 : Int32)) = (0 : Int32)))))])) tgt → Steps p.tables e below (s₁.setTop (entryFrame m #[(.long q1), (.long q2), (.int p3)] maxLocals)) tgt := by
    by_cases hc20_2 : (((p3.toUInt32 >>> ((6 : Int32) &&& 31).toUInt32).toInt32) &&& (1 : Int32)) = (0 : Int32)
    · skip
      refine ⟨s₁, _, X0, N0, e0, fun tgt kk => ?_⟩
      have kq4 : ((.int (bI (¬ ((((p3.toUInt32 >>> ((6 : Int32) &&& 31).toUInt32).toInt32) &&& (1 : Int32)) = (0 : Int32))))) : Value) = (.int (0 : Int32)) := (congrArg Value.int (bI_f (not_not_intro hc20_2)))
      rw [kq4] at kk
      refine pre1 tgt ?_
      refine XS.ifYes X0.here hx rfl (pc0 := 20) (pc' := 27) rfl (hb hby at_20) rfl (XT.i0_eq_t hc20_2) (by decide) (by decide) ?_
      show Steps p.tables e below (s₁.setTop (mkF m 27 #[.val (.long q1), .second, .val (.long q2), .second, .val (.int p3), .val (.int (p3 &&& (63 : Int32))), .val (.long ((1 : Int64) <<< ((p3 &&& (63 : Int32)) &&& 0x3f).toInt64)), .second, .unset, .unset, .unset, .unset, .unset, .unset, .unset, .unset] [])) _
      refine XS.iconst X0.here hx rfl (hb hby at_27) ?_
      show Steps p.tables e below (s₁.setTop (mkF m 28 #[.val (.long q1), .second, .val (.long q2), .second, .val (.int p3), .val (.int (p3 &&& (63 : Int32))), .val (.long ((1 : Int64) <<< ((p3 &&& (63 : Int32)) &&& 0x3f).toInt64)), .second, .unset, .unset, .unset, .unset, .unset, .unset, .unset, .unset] [(.int (0 : Int32))])) _
      exact kk
    · skip
      refine ⟨s₁, _, X0, N0, e0, fun tgt kk => ?_⟩
      have kq5 : ((.int (bI (¬ ((((p3.toUInt32 >>> ((6 : Int32) &&& 31).toUInt32).toInt32) &&& (1 : Int32)) = (0 : Int32))))) : Value) = (.int (1 : Int32)) := (congrArg Value.int (bI_t hc20_2))
      rw [kq5] at kk
      refine pre1 tgt ?_
      refine XS.ifNo X0.here hx rfl (hb hby at_20) rfl (XT.i0_eq_f hc20_2) ?_
      show Steps p.tables e below (s₁.setTop (mkF m 23 #[.val (.long q1), .second, .val (.long q2), .second, .val (.int p3), .val (.int (p3 &&& (63 : Int32))), .val (.long ((1 : Int64) <<< ((p3 &&& (63 : Int32)) &&& 0x3f).toInt64)), .second, .unset, .unset, .unset, .unset, .unset, .unset, .unset, .unset] [])) _
      refine XS.iconst X0.here hx rfl (hb hby at_23) ?_
      show Steps p.tables e below (s₁.setTop (mkF m 24 #[.val (.long q1), .second, .val (.long q2), .second, .val (.int p3), .val (.int (p3 &&& (63 : Int32))), .val (.long ((1 : Int64) <<< ((p3 &&& (63 : Int32)) &&& 0x3f).toInt64)), .second, .unset, .unset, .unset, .unset, .unset, .unset, .unset, .unset] [(.int (1 : Int32))])) _
      refine XS.goto X0.here hx rfl (pc0 := 24) (pc' := 28) rfl (hb hby at_24) (by decide) (by decide) ?_
      show Steps p.tables e below (s₁.setTop (mkF m 28 #[.val (.long q1), .second, .val (.long q2), .second, .val (.int p3), .val (.int (p3 &&& (63 : Int32))), .val (.long ((1 : Int64) <<< ((p3 &&& (63 : Int32)) &&& 0x3f).toInt64)), .second, .unset, .unset, .unset, .unset, .unset, .unset, .unset, .unset] [(.int (1 : Int32))])) _
      exact kk
  have pre6 : ∀ tgt, Steps p.tables e below (T3.setTop (mkF m 30 #[.val (.long q1), .second, .val (.long q2), .second, .val (.int p3), .val (.int (p3 &&& (63 : Int32))), .val (.long ((1 : Int64) <<< ((p3 &&& (63 : Int32)) &&& 0x3f).toInt64)), .second, .val (.int (bI (¬ ((((p3.toUInt32 >>> ((6 : Int32) &&& 31).toUInt32).toInt32) &&& (1 : Int32)) = (0 : Int32))))), .unset, .unset, .unset, .unset, .unset, .unset, .unset] [])) tgt → Steps p.tables e below (s₁.setTop (entryFrame m #[(.long q1), (.long q2), (.int p3)] maxLocals)) tgt := by
    intro tgt kk
    refine pre3 tgt ?_
    refine XS.istore X3.here hx rfl (hb hby at_28) rfl (l' := #[.val (.long q1), .second, .val (.long q2), .second, .val (.int p3), .val (.int (p3 &&& (63 : Int32))), .val (.long ((1 : Int64) <<< ((p3 &&& (63 : Int32)) &&& 0x3f).toInt64)), .second, .val (.int (bI (¬ ((((p3.toUInt32 >>> ((6 : Int32) &&& 31).toUInt32).toInt32) &&& (1 : Int32)) = (0 : Int32))))), .unset, .unset, .unset, .unset, .unset, .unset, .unset]) rfl ?_
    show Steps p.tables e below (T3.setTop (mkF m 30 #[.val (.long q1), .second, .val (.long q2), .second, .val (.int p3), .val (.int (p3 &&& (63 : Int32))), .val (.long ((1 : Int64) <<< ((p3 &&& (63 : Int32)) &&& 0x3f).toInt64)), .second, .val (.int (bI (¬ ((((p3.toUInt32 >>> ((6 : Int32) &&& 31).toUInt32).toInt32) &&& (1 : Int32)) = (0 : Int32))))), .unset, .unset, .unset, .unset, .unset, .unset, .unset] [])) _
    exact kk
  obtain ⟨T7, h7, X7, e7, E7, A7, D7, -, st7⟩ := newO X3 hx hZ hown (hw _ (List.mem_of_getElem? (i := 0) rfl)) (hw _ (List.mem_of_getElem? (i := 1) rfl)) (hw _ (List.mem_of_getElem? (i := 2) rfl)) e3 (g := (mkF m 30 #[.val (.long q1), .second, .val (.long q2), .second, .val (.int p3), .val (.int (p3 &&& (63 : Int32))), .val (.long ((1 : Int64) <<< ((p3 &&& (63 : Int32)) &&& 0x3f).toInt64)), .second, .val (.int (bI (¬ ((((p3.toUInt32 >>> ((6 : Int32) &&& 31).toUInt32).toInt32) &&& (1 : Int32)) = (0 : Int32))))), .unset, .unset, .unset, .unset, .unset, .unset, .unset] [])) rfl (hb hby at_30) (by decide) (by decide)
  obtain ⟨b7, g7⟩ : ∃ z, z = h0.size := ⟨_, rfl⟩
  rw [← g7] at A7 D7 st7
  have gn8 : n0 ≤ b7 := Nat.le_trans Z0 (Nat.le_of_eq g7.symm)
  have sz8 : h0.size ≤ b7 := Nat.le_trans KC0.1 (Nat.le_of_eq g7.symm)
  have Zs9 : n0 ≤ h7.size := Nat.le_trans Z0 E7.1
  have KC9 : Keep h0 h7 [] := KC0.ext E7
  have E_b7 : Exa Z h7 b7 "com/example/postie/postie/store/MessageId" := A7
  have F_high_b7 : Fld Z h7 b7 "com/example/postie/postie/store/MessageId" "high" "J" (.long (0 : Int64)) := D7 (Or.inr (hw _ (List.mem_of_getElem? (i := 10) rfl))) (ty := .long) (by decide)
  have F_low_b7 : Fld Z h7 b7 "com/example/postie/postie/store/MessageId" "low" "J" (.long (0 : Int64)) := D7 (Or.inr (hw _ (List.mem_of_getElem? (i := 12) rfl))) (ty := .long) (by decide)
  have pre10 : ∀ tgt, Steps p.tables e below (T7.setTop (mkF m 36 #[.val (.long q1), .second, .val (.long q2), .second, .val (.int p3), .val (.int (p3 &&& (63 : Int32))), .val (.long ((1 : Int64) <<< ((p3 &&& (63 : Int32)) &&& 0x3f).toInt64)), .second, .val (.int (bI (¬ ((((p3.toUInt32 >>> ((6 : Int32) &&& 31).toUInt32).toInt32) &&& (1 : Int32)) = (0 : Int32))))), .unset, .unset, .unset, .unset, .unset, .unset, .unset] [(.long q2), (.long q1), (.ref b7), (.ref b7)])) tgt → Steps p.tables e below (s₁.setTop (entryFrame m #[(.long q1), (.long q2), (.int p3)] maxLocals)) tgt := by
    intro tgt kk
    refine pre6 tgt ?_
    refine st7 _ ?_
    show Steps p.tables e below (T7.setTop (mkF m 33 #[.val (.long q1), .second, .val (.long q2), .second, .val (.int p3), .val (.int (p3 &&& (63 : Int32))), .val (.long ((1 : Int64) <<< ((p3 &&& (63 : Int32)) &&& 0x3f).toInt64)), .second, .val (.int (bI (¬ ((((p3.toUInt32 >>> ((6 : Int32) &&& 31).toUInt32).toInt32) &&& (1 : Int32)) = (0 : Int32))))), .unset, .unset, .unset, .unset, .unset, .unset, .unset] [(.ref b7)])) _
    refine XS.dup X7.here hx rfl (hb hby at_33) rfl rfl ?_
    show Steps p.tables e below (T7.setTop (mkF m 34 #[.val (.long q1), .second, .val (.long q2), .second, .val (.int p3), .val (.int (p3 &&& (63 : Int32))), .val (.long ((1 : Int64) <<< ((p3 &&& (63 : Int32)) &&& 0x3f).toInt64)), .second, .val (.int (bI (¬ ((((p3.toUInt32 >>> ((6 : Int32) &&& 31).toUInt32).toInt32) &&& (1 : Int32)) = (0 : Int32))))), .unset, .unset, .unset, .unset, .unset, .unset, .unset] [(.ref b7), (.ref b7)])) _
    refine XS.lloadN X7.here hx rfl (hb hby at_34) rfl ?_
    show Steps p.tables e below (T7.setTop (mkF m 35 #[.val (.long q1), .second, .val (.long q2), .second, .val (.int p3), .val (.int (p3 &&& (63 : Int32))), .val (.long ((1 : Int64) <<< ((p3 &&& (63 : Int32)) &&& 0x3f).toInt64)), .second, .val (.int (bI (¬ ((((p3.toUInt32 >>> ((6 : Int32) &&& 31).toUInt32).toInt32) &&& (1 : Int32)) = (0 : Int32))))), .unset, .unset, .unset, .unset, .unset, .unset, .unset] [(.long q1), (.ref b7), (.ref b7)])) _
    refine XS.lloadN X7.here hx rfl (hb hby at_35) rfl ?_
    show Steps p.tables e below (T7.setTop (mkF m 36 #[.val (.long q1), .second, .val (.long q2), .second, .val (.int p3), .val (.int (p3 &&& (63 : Int32))), .val (.long ((1 : Int64) <<< ((p3 &&& (63 : Int32)) &&& 0x3f).toInt64)), .second, .val (.int (bI (¬ ((((p3.toUInt32 >>> ((6 : Int32) &&& 31).toUInt32).toInt32) &&& (1 : Int32)) = (0 : Int32))))), .unset, .unset, .unset, .unset, .unset, .unset, .unset] [(.long q2), (.long q1), (.ref b7), (.ref b7)])) _
    exact kk
  obtain ⟨_, _, ⟨T11, L11, k11, n11⟩, -, X11, ⟨Lc11, hQ11, l11, y11, z11⟩, st11⟩ := X7.specialBack hx (y := (⟨"com/example/postie/postie/store/MessageId", "<init>", "(JJ)V"⟩ : MethodName)) rfl hown (mvT hZ (hw _ (List.mem_of_getElem? (i := 3) rfl))) (mvT hZ (hw _ (List.mem_of_getElem? (i := 4) rfl))) (mvT hZ (hw _ (List.mem_of_getElem? (i := 5) rfl))) (by decide) (backOf (W := 1) (rmI l Z a0 hw [] (b7) (q1) (q2) h7 n0 Zs9 E_b7 F_high_b7 F_low_b7 gn8) hZ (hw _ (List.mem_of_getElem? (i := 5) rfl)) (hw _ (List.mem_of_getElem? (i := 2) rfl)) (by decide) (by decide)) (g := (mkF m 36 #[.val (.long q1), .second, .val (.long q2), .second, .val (.int p3), .val (.int (p3 &&& (63 : Int32))), .val (.long ((1 : Int64) <<< ((p3 &&& (63 : Int32)) &&& 0x3f).toInt64)), .second, .val (.int (bI (¬ ((((p3.toUInt32 >>> ((6 : Int32) &&& 31).toUInt32).toInt32) &&& (1 : Int32)) = (0 : Int32))))), .unset, .unset, .unset, .unset, .unset, .unset, .unset] [(.long q2), (.long q1), (.ref b7), (.ref b7)])) rfl (by rw [hml]; rfl) (Steps.refl _) (a := b7) (argsL := [(.long q1), (.long q2)]) (rest := [(.ref b7)]) (lenOf pd__JJ_V rfl) rfl (by show 2 * 0 + _ ≤ _; exact Nat.le_of_eq rfl) (hb hby at_36) (fun _ _ => ⟨rfl, e7, (by decide : 1 + 0 ≤ _), (by decide : 2 + 0 ≤ _)⟩)
  dsimp only [Pt.U, Pt.locs, Pt.cells, Pt.slots] at X11 l11 y11 z11 st11 hQ11
  subst l11 y11 z11
  obtain ⟨rfl, N11q, K11, Fq11_0, Fq11_1⟩ := hQ11
  have N11 := Fr.app N3 N11q
  have E_b7 : Exa Z T11.heap b7 "com/example/postie/postie/store/MessageId" := E_b7.keep K11
  have Zs12 : n0 ≤ T11.heap.size := Nat.le_trans Zs9 K11.1
  have KC12 : Keep h0 T11.heap [] := KC9.trans K11 (allS (Or.inr sz8) all0)
  have F_high_b7 := Fq11_0
  have F_low_b7 := Fq11_1
  have pre13 : ∀ tgt, Steps p.tables e below (T11.setTop (mkF m 41 #[.val (.long q1), .second, .val (.long q2), .second, .val (.int p3), .val (.int (p3 &&& (63 : Int32))), .val (.long ((1 : Int64) <<< ((p3 &&& (63 : Int32)) &&& 0x3f).toInt64)), .second, .val (.int (bI (¬ ((((p3.toUInt32 >>> ((6 : Int32) &&& 31).toUInt32).toInt32) &&& (1 : Int32)) = (0 : Int32))))), .val (.ref b7), .unset, .unset, .unset, .unset, .unset, .unset] [])) tgt → Steps p.tables e below (s₁.setTop (entryFrame m #[(.long q1), (.long q2), (.int p3)] maxLocals)) tgt := by
    intro tgt kk
    refine pre10 tgt ?_
    refine st11.trans ?_
    show Steps p.tables e below (T11.setTop (mkF m 39 #[.val (.long q1), .second, .val (.long q2), .second, .val (.int p3), .val (.int (p3 &&& (63 : Int32))), .val (.long ((1 : Int64) <<< ((p3 &&& (63 : Int32)) &&& 0x3f).toInt64)), .second, .val (.int (bI (¬ ((((p3.toUInt32 >>> ((6 : Int32) &&& 31).toUInt32).toInt32) &&& (1 : Int32)) = (0 : Int32))))), .unset, .unset, .unset, .unset, .unset, .unset, .unset] [(.ref b7)])) _
    refine XS.astore X11.here hx rfl (hb hby at_39) rfl rfl (l' := #[.val (.long q1), .second, .val (.long q2), .second, .val (.int p3), .val (.int (p3 &&& (63 : Int32))), .val (.long ((1 : Int64) <<< ((p3 &&& (63 : Int32)) &&& 0x3f).toInt64)), .second, .val (.int (bI (¬ ((((p3.toUInt32 >>> ((6 : Int32) &&& 31).toUInt32).toInt32) &&& (1 : Int32)) = (0 : Int32))))), .val (.ref b7), .unset, .unset, .unset, .unset, .unset, .unset]) rfl ?_
    show Steps p.tables e below (T11.setTop (mkF m 41 #[.val (.long q1), .second, .val (.long q2), .second, .val (.int p3), .val (.int (p3 &&& (63 : Int32))), .val (.long ((1 : Int64) <<< ((p3 &&& (63 : Int32)) &&& 0x3f).toInt64)), .second, .val (.int (bI (¬ ((((p3.toUInt32 >>> ((6 : Int32) &&& 31).toUInt32).toInt32) &&& (1 : Int32)) = (0 : Int32))))), .val (.ref b7), .unset, .unset, .unset, .unset, .unset, .unset] [])) _
    exact kk
  obtain ⟨T14, h14, X14, e14, E14, A14, D14, -, st14⟩ := newO X11 hx hZ hown (hw _ (List.mem_of_getElem? (i := 0) rfl)) (hw _ (List.mem_of_getElem? (i := 1) rfl)) (hw _ (List.mem_of_getElem? (i := 2) rfl)) rfl (g := (mkF m 41 #[.val (.long q1), .second, .val (.long q2), .second, .val (.int p3), .val (.int (p3 &&& (63 : Int32))), .val (.long ((1 : Int64) <<< ((p3 &&& (63 : Int32)) &&& 0x3f).toInt64)), .second, .val (.int (bI (¬ ((((p3.toUInt32 >>> ((6 : Int32) &&& 31).toUInt32).toInt32) &&& (1 : Int32)) = (0 : Int32))))), .val (.ref b7), .unset, .unset, .unset, .unset, .unset, .unset] [])) rfl (hb hby at_41) (by decide) (by decide)
  obtain ⟨b14, g14⟩ : ∃ z, z = T11.heap.size := ⟨_, rfl⟩
  rw [← g14] at A14 D14 st14
  have ne15 : b7 ≠ b14 := Nat.ne_of_lt (Nat.lt_of_lt_of_le E_b7.lt (Nat.le_of_eq g14.symm))
  have gn16 : n0 ≤ b14 := Nat.le_trans Zs12 (Nat.le_of_eq g14.symm)
  have sz16 : h0.size ≤ b14 := Nat.le_trans KC12.1 (Nat.le_of_eq g14.symm)
  have E_b7 : Exa Z h14 b7 "com/example/postie/postie/store/MessageId" := E_b7.ext E14
  have F_high_b7 : Fld Z h14 b7 "com/example/postie/postie/store/MessageId" "high" "J" (.long q1) := F_high_b7.ext E14
  have F_low_b7 : Fld Z h14 b7 "com/example/postie/postie/store/MessageId" "low" "J" (.long q2) := F_low_b7.ext E14
  have Zs17 : n0 ≤ h14.size := Nat.le_trans Zs12 E14.1
  have KC17 : Keep h0 h14 [] := KC12.ext E14
  have E_b14 : Exa Z h14 b14 "com/example/postie/postie/store/MessageId" := A14
  have F_high_b14 : Fld Z h14 b14 "com/example/postie/postie/store/MessageId" "high" "J" (.long (0 : Int64)) := D14 (Or.inr (hw _ (List.mem_of_getElem? (i := 10) rfl))) (ty := .long) (by decide)
  have F_low_b14 : Fld Z h14 b14 "com/example/postie/postie/store/MessageId" "low" "J" (.long (0 : Int64)) := D14 (Or.inr (hw _ (List.mem_of_getElem? (i := 12) rfl))) (ty := .long) (by decide)
  have pre18 : ∀ tgt, Steps p.tables e below (T14.setTop (mkF m 47 #[.val (.long q1), .second, .val (.long q2), .second, .val (.int p3), .val (.int (p3 &&& (63 : Int32))), .val (.long ((1 : Int64) <<< ((p3 &&& (63 : Int32)) &&& 0x3f).toInt64)), .second, .val (.int (bI (¬ ((((p3.toUInt32 >>> ((6 : Int32) &&& 31).toUInt32).toInt32) &&& (1 : Int32)) = (0 : Int32))))), .val (.ref b7), .unset, .unset, .unset, .unset, .unset, .unset] [(.long q2), (.long q1), (.ref b14), (.ref b14)])) tgt → Steps p.tables e below (s₁.setTop (entryFrame m #[(.long q1), (.long q2), (.int p3)] maxLocals)) tgt := by
    intro tgt kk
    refine pre13 tgt ?_
    refine st14 _ ?_
    show Steps p.tables e below (T14.setTop (mkF m 44 #[.val (.long q1), .second, .val (.long q2), .second, .val (.int p3), .val (.int (p3 &&& (63 : Int32))), .val (.long ((1 : Int64) <<< ((p3 &&& (63 : Int32)) &&& 0x3f).toInt64)), .second, .val (.int (bI (¬ ((((p3.toUInt32 >>> ((6 : Int32) &&& 31).toUInt32).toInt32) &&& (1 : Int32)) = (0 : Int32))))), .val (.ref b7), .unset, .unset, .unset, .unset, .unset, .unset] [(.ref b14)])) _
    refine XS.dup X14.here hx rfl (hb hby at_44) rfl rfl ?_
    show Steps p.tables e below (T14.setTop (mkF m 45 #[.val (.long q1), .second, .val (.long q2), .second, .val (.int p3), .val (.int (p3 &&& (63 : Int32))), .val (.long ((1 : Int64) <<< ((p3 &&& (63 : Int32)) &&& 0x3f).toInt64)), .second, .val (.int (bI (¬ ((((p3.toUInt32 >>> ((6 : Int32) &&& 31).toUInt32).toInt32) &&& (1 : Int32)) = (0 : Int32))))), .val (.ref b7), .unset, .unset, .unset, .unset, .unset, .unset] [(.ref b14), (.ref b14)])) _
    refine XS.lloadN X14.here hx rfl (hb hby at_45) rfl ?_
    show Steps p.tables e below (T14.setTop (mkF m 46 #[.val (.long q1), .second, .val (.long q2), .second, .val (.int p3), .val (.int (p3 &&& (63 : Int32))), .val (.long ((1 : Int64) <<< ((p3 &&& (63 : Int32)) &&& 0x3f).toInt64)), .second, .val (.int (bI (¬ ((((p3.toUInt32 >>> ((6 : Int32) &&& 31).toUInt32).toInt32) &&& (1 : Int32)) = (0 : Int32))))), .val (.ref b7), .unset, .unset, .unset, .unset, .unset, .unset] [(.long q1), (.ref b14), (.ref b14)])) _
    refine XS.lloadN X14.here hx rfl (hb hby at_46) rfl ?_
    show Steps p.tables e below (T14.setTop (mkF m 47 #[.val (.long q1), .second, .val (.long q2), .second, .val (.int p3), .val (.int (p3 &&& (63 : Int32))), .val (.long ((1 : Int64) <<< ((p3 &&& (63 : Int32)) &&& 0x3f).toInt64)), .second, .val (.int (bI (¬ ((((p3.toUInt32 >>> ((6 : Int32) &&& 31).toUInt32).toInt32) &&& (1 : Int32)) = (0 : Int32))))), .val (.ref b7), .unset, .unset, .unset, .unset, .unset, .unset] [(.long q2), (.long q1), (.ref b14), (.ref b14)])) _
    exact kk
  obtain ⟨_, _, ⟨T19, L19, k19, n19⟩, -, X19, ⟨Lc19, hQ19, l19, y19, z19⟩, st19⟩ := X14.specialBack hx (y := (⟨"com/example/postie/postie/store/MessageId", "<init>", "(JJ)V"⟩ : MethodName)) rfl hown (mvT hZ (hw _ (List.mem_of_getElem? (i := 3) rfl))) (mvT hZ (hw _ (List.mem_of_getElem? (i := 4) rfl))) (mvT hZ (hw _ (List.mem_of_getElem? (i := 5) rfl))) (by decide) (backOf (W := 1) (rmI l Z a0 hw [] (b14) (q1) (q2) h14 n0 Zs17 E_b14 F_high_b14 F_low_b14 gn16) hZ (hw _ (List.mem_of_getElem? (i := 5) rfl)) (hw _ (List.mem_of_getElem? (i := 2) rfl)) (by decide) (by decide)) (g := (mkF m 47 #[.val (.long q1), .second, .val (.long q2), .second, .val (.int p3), .val (.int (p3 &&& (63 : Int32))), .val (.long ((1 : Int64) <<< ((p3 &&& (63 : Int32)) &&& 0x3f).toInt64)), .second, .val (.int (bI (¬ ((((p3.toUInt32 >>> ((6 : Int32) &&& 31).toUInt32).toInt32) &&& (1 : Int32)) = (0 : Int32))))), .val (.ref b7), .unset, .unset, .unset, .unset, .unset, .unset] [(.long q2), (.long q1), (.ref b14), (.ref b14)])) rfl (by rw [hml]; rfl) (Steps.refl _) (a := b14) (argsL := [(.long q1), (.long q2)]) (rest := [(.ref b14)]) (lenOf pd__JJ_V rfl) rfl (by show 2 * 0 + _ ≤ _; exact Nat.le_of_eq rfl) (hb hby at_47) (fun _ _ => ⟨rfl, e14, (by decide : 2 + 0 ≤ _), (by decide : 4 + 0 ≤ _)⟩)
  dsimp only [Pt.U, Pt.locs, Pt.cells, Pt.slots] at X19 l19 y19 z19 st19 hQ19
  subst l19 y19 z19
  obtain ⟨rfl, N19q, K19, Fq19_0, Fq19_1⟩ := hQ19
  have N19 := Fr.app N11 N19q
  have E_b7 : Exa Z T19.heap b7 "com/example/postie/postie/store/MessageId" := E_b7.keep K19
  have F_high_b7 : Fld Z T19.heap b7 "com/example/postie/postie/store/MessageId" "high" "J" (.long q1) := F_high_b7.keep K19 (ninS ne15 nin0)
  have F_low_b7 : Fld Z T19.heap b7 "com/example/postie/postie/store/MessageId" "low" "J" (.long q2) := F_low_b7.keep K19 (ninS ne15 nin0)
  have E_b14 : Exa Z T19.heap b14 "com/example/postie/postie/store/MessageId" := E_b14.keep K19
  have Zs20 : n0 ≤ T19.heap.size := Nat.le_trans Zs17 K19.1
  have KC20 : Keep h0 T19.heap [] := KC17.trans K19 (allS (Or.inr sz16) all0)
  have F_high_b14 := Fq19_0
  have F_low_b14 := Fq19_1
  have pre21 : ∀ tgt, Steps p.tables e below (T19.setTop (mkF m 54 #[.val (.long q1), .second, .val (.long q2), .second, .val (.int p3), .val (.int (p3 &&& (63 : Int32))), .val (.long ((1 : Int64) <<< ((p3 &&& (63 : Int32)) &&& 0x3f).toInt64)), .second, .val (.int (bI (¬ ((((p3.toUInt32 >>> ((6 : Int32) &&& 31).toUInt32).toInt32) &&& (1 : Int32)) = (0 : Int32))))), .val (.ref b7), .val (.ref b14), .unset, .unset, .unset, .unset, .unset] [(.int (bI (¬ ((((p3.toUInt32 >>> ((6 : Int32) &&& 31).toUInt32).toInt32) &&& (1 : Int32)) = (0 : Int32)))))])) tgt → Steps p.tables e below (s₁.setTop (entryFrame m #[(.long q1), (.long q2), (.int p3)] maxLocals)) tgt := by
    intro tgt kk
    refine pre18 tgt ?_
    refine st19.trans ?_
    show Steps p.tables e below (T19.setTop (mkF m 50 #[.val (.long q1), .second, .val (.long q2), .second, .val (.int p3), .val (.int (p3 &&& (63 : Int32))), .val (.long ((1 : Int64) <<< ((p3 &&& (63 : Int32)) &&& 0x3f).toInt64)), .second, .val (.int (bI (¬ ((((p3.toUInt32 >>> ((6 : Int32) &&& 31).toUInt32).toInt32) &&& (1 : Int32)) = (0 : Int32))))), .val (.ref b7), .unset, .unset, .unset, .unset, .unset, .unset] [(.ref b14)])) _
    refine XS.astore X19.here hx rfl (hb hby at_50) rfl rfl (l' := #[.val (.long q1), .second, .val (.long q2), .second, .val (.int p3), .val (.int (p3 &&& (63 : Int32))), .val (.long ((1 : Int64) <<< ((p3 &&& (63 : Int32)) &&& 0x3f).toInt64)), .second, .val (.int (bI (¬ ((((p3.toUInt32 >>> ((6 : Int32) &&& 31).toUInt32).toInt32) &&& (1 : Int32)) = (0 : Int32))))), .val (.ref b7), .val (.ref b14), .unset, .unset, .unset, .unset, .unset]) rfl ?_
    show Steps p.tables e below (T19.setTop (mkF m 52 #[.val (.long q1), .second, .val (.long q2), .second, .val (.int p3), .val (.int (p3 &&& (63 : Int32))), .val (.long ((1 : Int64) <<< ((p3 &&& (63 : Int32)) &&& 0x3f).toInt64)), .second, .val (.int (bI (¬ ((((p3.toUInt32 >>> ((6 : Int32) &&& 31).toUInt32).toInt32) &&& (1 : Int32)) = (0 : Int32))))), .val (.ref b7), .val (.ref b14), .unset, .unset, .unset, .unset, .unset] [])) _
    refine XS.iload X19.here hx rfl (hb hby at_52) rfl ?_
    show Steps p.tables e below (T19.setTop (mkF m 54 #[.val (.long q1), .second, .val (.long q2), .second, .val (.int p3), .val (.int (p3 &&& (63 : Int32))), .val (.long ((1 : Int64) <<< ((p3 &&& (63 : Int32)) &&& 0x3f).toInt64)), .second, .val (.int (bI (¬ ((((p3.toUInt32 >>> ((6 : Int32) &&& 31).toUInt32).toInt32) &&& (1 : Int32)) = (0 : Int32))))), .val (.ref b7), .val (.ref b14), .unset, .unset, .unset, .unset, .unset] [(.int (bI (¬ ((((p3.toUInt32 >>> ((6 : Int32) &&& 31).toUInt32).toInt32) &&& (1 : Int32)) = (0 : Int32)))))])) _
    exact kk
  by_cases hc54_22 : ¬ ((((p3.toUInt32 >>> ((6 : Int32) &&& 31).toUInt32).toInt32) &&& (1 : Int32)) = (0 : Int32))
  · skip
    have pre23 : ∀ tgt, Steps p.tables e below (T19.setTop (mkF m 57 #[.val (.long q1), .second, .val (.long q2), .second, .val (.int p3), .val (.int (p3 &&& (63 : Int32))), .val (.long ((1 : Int64) <<< ((p3 &&& (63 : Int32)) &&& 0x3f).toInt64)), .second, .val (.int (bI (¬ ((((p3.toUInt32 >>> ((6 : Int32) &&& 31).toUInt32).toInt32) &&& (1 : Int32)) = (0 : Int32))))), .val (.ref b7), .val (.ref b14), .unset, .unset, .unset, .unset, .unset] [])) tgt → Steps p.tables e below (s₁.setTop (entryFrame m #[(.long q1), (.long q2), (.int p3)] maxLocals)) tgt := by
      intro tgt kk
      refine pre21 tgt ?_
      refine XS.ifNo X19.here hx rfl (hb hby at_54) rfl (bB_eq_f hc54_22) ?_
      show Steps p.tables e below (T19.setTop (mkF m 57 #[.val (.long q1), .second, .val (.long q2), .second, .val (.int p3), .val (.int (p3 &&& (63 : Int32))), .val (.long ((1 : Int64) <<< ((p3 &&& (63 : Int32)) &&& 0x3f).toInt64)), .second, .val (.int (bI (¬ ((((p3.toUInt32 >>> ((6 : Int32) &&& 31).toUInt32).toInt32) &&& (1 : Int32)) = (0 : Int32))))), .val (.ref b7), .val (.ref b14), .unset, .unset, .unset, .unset, .unset] [])) _
      exact kk
    obtain ⟨T24, h24, X24, e24, E24, A24, D24, -, st24⟩ := newO X19 hx hZ hown (hw _ (List.mem_of_getElem? (i := 0) rfl)) (hw _ (List.mem_of_getElem? (i := 1) rfl)) (hw _ (List.mem_of_getElem? (i := 2) rfl)) rfl (g := (mkF m 57 #[.val (.long q1), .second, .val (.long q2), .second, .val (.int p3), .val (.int (p3 &&& (63 : Int32))), .val (.long ((1 : Int64) <<< ((p3 &&& (63 : Int32)) &&& 0x3f).toInt64)), .second, .val (.int (bI (¬ ((((p3.toUInt32 >>> ((6 : Int32) &&& 31).toUInt32).toInt32) &&& (1 : Int32)) = (0 : Int32))))), .val (.ref b7), .val (.ref b14), .unset, .unset, .unset, .unset, .unset] [])) rfl (hb hby at_57) (by decide) (by decide)
    obtain ⟨b24, g24⟩ : ∃ z, z = T19.heap.size := ⟨_, rfl⟩
    rw [← g24] at A24 D24 st24
    have ne25 : b7 ≠ b24 := Nat.ne_of_lt (Nat.lt_of_lt_of_le E_b7.lt (Nat.le_of_eq g24.symm))
    have ne26 : b14 ≠ b24 := Nat.ne_of_lt (Nat.lt_of_lt_of_le E_b14.lt (Nat.le_of_eq g24.symm))
    have gn27 : n0 ≤ b24 := Nat.le_trans Zs20 (Nat.le_of_eq g24.symm)
    have sz27 : h0.size ≤ b24 := Nat.le_trans KC20.1 (Nat.le_of_eq g24.symm)
    have E_b7 : Exa Z h24 b7 "com/example/postie/postie/store/MessageId" := E_b7.ext E24
    have F_high_b7 : Fld Z h24 b7 "com/example/postie/postie/store/MessageId" "high" "J" (.long q1) := F_high_b7.ext E24
    have F_low_b7 : Fld Z h24 b7 "com/example/postie/postie/store/MessageId" "low" "J" (.long q2) := F_low_b7.ext E24
    have E_b14 : Exa Z h24 b14 "com/example/postie/postie/store/MessageId" := E_b14.ext E24
    have F_high_b14 : Fld Z h24 b14 "com/example/postie/postie/store/MessageId" "high" "J" (.long q1) := F_high_b14.ext E24
    have F_low_b14 : Fld Z h24 b14 "com/example/postie/postie/store/MessageId" "low" "J" (.long q2) := F_low_b14.ext E24
    have Zs28 : n0 ≤ h24.size := Nat.le_trans Zs20 E24.1
    have KC28 : Keep h0 h24 [] := KC20.ext E24
    have E_b24 : Exa Z h24 b24 "com/example/postie/postie/store/MessageId" := A24
    have F_high_b24 : Fld Z h24 b24 "com/example/postie/postie/store/MessageId" "high" "J" (.long (0 : Int64)) := D24 (Or.inr (hw _ (List.mem_of_getElem? (i := 10) rfl))) (ty := .long) (by decide)
    have F_low_b24 : Fld Z h24 b24 "com/example/postie/postie/store/MessageId" "low" "J" (.long (0 : Int64)) := D24 (Or.inr (hw _ (List.mem_of_getElem? (i := 12) rfl))) (ty := .long) (by decide)
    have pre29 : ∀ tgt, Steps p.tables e below (T24.setTop (mkF m 66 #[.val (.long q1), .second, .val (.long q2), .second, .val (.int p3), .val (.int (p3 &&& (63 : Int32))), .val (.long ((1 : Int64) <<< ((p3 &&& (63 : Int32)) &&& 0x3f).toInt64)), .second, .val (.int (bI (¬ ((((p3.toUInt32 >>> ((6 : Int32) &&& 31).toUInt32).toInt32) &&& (1 : Int32)) = (0 : Int32))))), .val (.ref b7), .val (.ref b14), .unset, .unset, .unset, .unset, .unset] [(.long q2), (.long (q1 ^^^ ((1 : Int64) <<< ((p3 &&& (63 : Int32)) &&& 0x3f).toInt64))), (.ref b24), (.ref b24)])) tgt → Steps p.tables e below (s₁.setTop (entryFrame m #[(.long q1), (.long q2), (.int p3)] maxLocals)) tgt := by
      intro tgt kk
      refine pre23 tgt ?_
      refine st24 _ ?_
      show Steps p.tables e below (T24.setTop (mkF m 60 #[.val (.long q1), .second, .val (.long q2), .second, .val (.int p3), .val (.int (p3 &&& (63 : Int32))), .val (.long ((1 : Int64) <<< ((p3 &&& (63 : Int32)) &&& 0x3f).toInt64)), .second, .val (.int (bI (¬ ((((p3.toUInt32 >>> ((6 : Int32) &&& 31).toUInt32).toInt32) &&& (1 : Int32)) = (0 : Int32))))), .val (.ref b7), .val (.ref b14), .unset, .unset, .unset, .unset, .unset] [(.ref b24)])) _
      refine XS.dup X24.here hx rfl (hb hby at_60) rfl rfl ?_
      show Steps p.tables e below (T24.setTop (mkF m 61 #[.val (.long q1), .second, .val (.long q2), .second, .val (.int p3), .val (.int (p3 &&& (63 : Int32))), .val (.long ((1 : Int64) <<< ((p3 &&& (63 : Int32)) &&& 0x3f).toInt64)), .second, .val (.int (bI (¬ ((((p3.toUInt32 >>> ((6 : Int32) &&& 31).toUInt32).toInt32) &&& (1 : Int32)) = (0 : Int32))))), .val (.ref b7), .val (.ref b14), .unset, .unset, .unset, .unset, .unset] [(.ref b24), (.ref b24)])) _
      refine XS.lloadN X24.here hx rfl (hb hby at_61) rfl ?_
      show Steps p.tables e below (T24.setTop (mkF m 62 #[.val (.long q1), .second, .val (.long q2), .second, .val (.int p3), .val (.int (p3 &&& (63 : Int32))), .val (.long ((1 : Int64) <<< ((p3 &&& (63 : Int32)) &&& 0x3f).toInt64)), .second, .val (.int (bI (¬ ((((p3.toUInt32 >>> ((6 : Int32) &&& 31).toUInt32).toInt32) &&& (1 : Int32)) = (0 : Int32))))), .val (.ref b7), .val (.ref b14), .unset, .unset, .unset, .unset, .unset] [(.long q1), (.ref b24), (.ref b24)])) _
      refine XS.lload X24.here hx rfl (hb hby at_62) rfl ?_
      show Steps p.tables e below (T24.setTop (mkF m 64 #[.val (.long q1), .second, .val (.long q2), .second, .val (.int p3), .val (.int (p3 &&& (63 : Int32))), .val (.long ((1 : Int64) <<< ((p3 &&& (63 : Int32)) &&& 0x3f).toInt64)), .second, .val (.int (bI (¬ ((((p3.toUInt32 >>> ((6 : Int32) &&& 31).toUInt32).toInt32) &&& (1 : Int32)) = (0 : Int32))))), .val (.ref b7), .val (.ref b14), .unset, .unset, .unset, .unset, .unset] [(.long ((1 : Int64) <<< ((p3 &&& (63 : Int32)) &&& 0x3f).toInt64)), (.long q1), (.ref b24), (.ref b24)])) _
      refine XS.lxor X24.here hx rfl (hb hby at_64) rfl ?_
      show Steps p.tables e below (T24.setTop (mkF m 65 #[.val (.long q1), .second, .val (.long q2), .second, .val (.int p3), .val (.int (p3 &&& (63 : Int32))), .val (.long ((1 : Int64) <<< ((p3 &&& (63 : Int32)) &&& 0x3f).toInt64)), .second, .val (.int (bI (¬ ((((p3.toUInt32 >>> ((6 : Int32) &&& 31).toUInt32).toInt32) &&& (1 : Int32)) = (0 : Int32))))), .val (.ref b7), .val (.ref b14), .unset, .unset, .unset, .unset, .unset] [(.long (q1 ^^^ ((1 : Int64) <<< ((p3 &&& (63 : Int32)) &&& 0x3f).toInt64))), (.ref b24), (.ref b24)])) _
      refine XS.lloadN X24.here hx rfl (hb hby at_65) rfl ?_
      show Steps p.tables e below (T24.setTop (mkF m 66 #[.val (.long q1), .second, .val (.long q2), .second, .val (.int p3), .val (.int (p3 &&& (63 : Int32))), .val (.long ((1 : Int64) <<< ((p3 &&& (63 : Int32)) &&& 0x3f).toInt64)), .second, .val (.int (bI (¬ ((((p3.toUInt32 >>> ((6 : Int32) &&& 31).toUInt32).toInt32) &&& (1 : Int32)) = (0 : Int32))))), .val (.ref b7), .val (.ref b14), .unset, .unset, .unset, .unset, .unset] [(.long q2), (.long (q1 ^^^ ((1 : Int64) <<< ((p3 &&& (63 : Int32)) &&& 0x3f).toInt64))), (.ref b24), (.ref b24)])) _
      exact kk
    obtain ⟨_, _, ⟨T30, L30, k30, n30⟩, -, X30, ⟨Lc30, hQ30, l30, y30, z30⟩, st30⟩ := X24.specialBack hx (y := (⟨"com/example/postie/postie/store/MessageId", "<init>", "(JJ)V"⟩ : MethodName)) rfl hown (mvT hZ (hw _ (List.mem_of_getElem? (i := 3) rfl))) (mvT hZ (hw _ (List.mem_of_getElem? (i := 4) rfl))) (mvT hZ (hw _ (List.mem_of_getElem? (i := 5) rfl))) (by decide) (backOf (W := 1) (rmI l Z a0 hw [] (b24) ((q1 ^^^ ((1 : Int64) <<< ((p3 &&& (63 : Int32)) &&& 0x3f).toInt64))) (q2) h24 n0 Zs28 E_b24 F_high_b24 F_low_b24 gn27) hZ (hw _ (List.mem_of_getElem? (i := 5) rfl)) (hw _ (List.mem_of_getElem? (i := 2) rfl)) (by decide) (by decide)) (g := (mkF m 66 #[.val (.long q1), .second, .val (.long q2), .second, .val (.int p3), .val (.int (p3 &&& (63 : Int32))), .val (.long ((1 : Int64) <<< ((p3 &&& (63 : Int32)) &&& 0x3f).toInt64)), .second, .val (.int (bI (¬ ((((p3.toUInt32 >>> ((6 : Int32) &&& 31).toUInt32).toInt32) &&& (1 : Int32)) = (0 : Int32))))), .val (.ref b7), .val (.ref b14), .unset, .unset, .unset, .unset, .unset] [(.long q2), (.long (q1 ^^^ ((1 : Int64) <<< ((p3 &&& (63 : Int32)) &&& 0x3f).toInt64))), (.ref b24), (.ref b24)])) rfl (by rw [hml]; rfl) (Steps.refl _) (a := b24) (argsL := [(.long (q1 ^^^ ((1 : Int64) <<< ((p3 &&& (63 : Int32)) &&& 0x3f).toInt64))), (.long q2)]) (rest := [(.ref b24)]) (lenOf pd__JJ_V rfl) rfl (by show 2 * 0 + _ ≤ _; exact Nat.le_of_eq rfl) (hb hby at_66) (fun _ _ => ⟨rfl, e24, (by decide : 3 + 0 ≤ _), (by decide : 6 + 0 ≤ _)⟩)
    dsimp only [Pt.U, Pt.locs, Pt.cells, Pt.slots] at X30 l30 y30 z30 st30 hQ30
    subst l30 y30 z30
    obtain ⟨rfl, N30q, K30, Fq30_0, Fq30_1⟩ := hQ30
    have N30 := Fr.app N19 N30q
    have E_b7 : Exa Z T30.heap b7 "com/example/postie/postie/store/MessageId" := E_b7.keep K30
    have F_high_b7 : Fld Z T30.heap b7 "com/example/postie/postie/store/MessageId" "high" "J" (.long q1) := F_high_b7.keep K30 (ninS ne25 nin0)
    have F_low_b7 : Fld Z T30.heap b7 "com/example/postie/postie/store/MessageId" "low" "J" (.long q2) := F_low_b7.keep K30 (ninS ne25 nin0)
    have E_b14 : Exa Z T30.heap b14 "com/example/postie/postie/store/MessageId" := E_b14.keep K30
    have F_high_b14 : Fld Z T30.heap b14 "com/example/postie/postie/store/MessageId" "high" "J" (.long q1) := F_high_b14.keep K30 (ninS ne26 nin0)
    have F_low_b14 : Fld Z T30.heap b14 "com/example/postie/postie/store/MessageId" "low" "J" (.long q2) := F_low_b14.keep K30 (ninS ne26 nin0)
    have E_b24 : Exa Z T30.heap b24 "com/example/postie/postie/store/MessageId" := E_b24.keep K30
    have Zs31 : n0 ≤ T30.heap.size := Nat.le_trans Zs28 K30.1
    have KC31 : Keep h0 T30.heap [] := KC28.trans K30 (allS (Or.inr sz27) all0)
    have F_high_b24 := Fq30_0
    have F_low_b24 := Fq30_1
    have pre32 : ∀ tgt, Steps p.tables e below (T30.setTop (mkF m 88 #[.val (.long q1), .second, .val (.long q2), .second, .val (.int p3), .val (.int (p3 &&& (63 : Int32))), .val (.long ((1 : Int64) <<< ((p3 &&& (63 : Int32)) &&& 0x3f).toInt64)), .second, .val (.int (bI (¬ ((((p3.toUInt32 >>> ((6 : Int32) &&& 31).toUInt32).toInt32) &&& (1 : Int32)) = (0 : Int32))))), .val (.ref b7), .val (.ref b14), .val (.ref b24), .unset, .unset, .unset, .unset] [(.ref b7)])) tgt → Steps p.tables e below (s₁.setTop (entryFrame m #[(.long q1), (.long q2), (.int p3)] maxLocals)) tgt := by
      intro tgt kk
      refine pre29 tgt ?_
      refine st30.trans ?_
      show Steps p.tables e below (T30.setTop (mkF m 69 #[.val (.long q1), .second, .val (.long q2), .second, .val (.int p3), .val (.int (p3 &&& (63 : Int32))), .val (.long ((1 : Int64) <<< ((p3 &&& (63 : Int32)) &&& 0x3f).toInt64)), .second, .val (.int (bI (¬ ((((p3.toUInt32 >>> ((6 : Int32) &&& 31).toUInt32).toInt32) &&& (1 : Int32)) = (0 : Int32))))), .val (.ref b7), .val (.ref b14), .unset, .unset, .unset, .unset, .unset] [(.ref b24)])) _
      refine XS.goto X30.here hx rfl (pc0 := 69) (pc' := 84) rfl (hb hby at_69) (by decide) (by decide) ?_
      show Steps p.tables e below (T30.setTop (mkF m 84 #[.val (.long q1), .second, .val (.long q2), .second, .val (.int p3), .val (.int (p3 &&& (63 : Int32))), .val (.long ((1 : Int64) <<< ((p3 &&& (63 : Int32)) &&& 0x3f).toInt64)), .second, .val (.int (bI (¬ ((((p3.toUInt32 >>> ((6 : Int32) &&& 31).toUInt32).toInt32) &&& (1 : Int32)) = (0 : Int32))))), .val (.ref b7), .val (.ref b14), .unset, .unset, .unset, .unset, .unset] [(.ref b24)])) _
      refine XS.astore X30.here hx rfl (hb hby at_84) rfl rfl (l' := #[.val (.long q1), .second, .val (.long q2), .second, .val (.int p3), .val (.int (p3 &&& (63 : Int32))), .val (.long ((1 : Int64) <<< ((p3 &&& (63 : Int32)) &&& 0x3f).toInt64)), .second, .val (.int (bI (¬ ((((p3.toUInt32 >>> ((6 : Int32) &&& 31).toUInt32).toInt32) &&& (1 : Int32)) = (0 : Int32))))), .val (.ref b7), .val (.ref b14), .val (.ref b24), .unset, .unset, .unset, .unset]) rfl ?_
      show Steps p.tables e below (T30.setTop (mkF m 86 #[.val (.long q1), .second, .val (.long q2), .second, .val (.int p3), .val (.int (p3 &&& (63 : Int32))), .val (.long ((1 : Int64) <<< ((p3 &&& (63 : Int32)) &&& 0x3f).toInt64)), .second, .val (.int (bI (¬ ((((p3.toUInt32 >>> ((6 : Int32) &&& 31).toUInt32).toInt32) &&& (1 : Int32)) = (0 : Int32))))), .val (.ref b7), .val (.ref b14), .val (.ref b24), .unset, .unset, .unset, .unset] [])) _
      refine XS.aload X30.here hx rfl (hb hby at_86) rfl rfl ?_
      show Steps p.tables e below (T30.setTop (mkF m 88 #[.val (.long q1), .second, .val (.long q2), .second, .val (.int p3), .val (.int (p3 &&& (63 : Int32))), .val (.long ((1 : Int64) <<< ((p3 &&& (63 : Int32)) &&& 0x3f).toInt64)), .second, .val (.int (bI (¬ ((((p3.toUInt32 >>> ((6 : Int32) &&& 31).toUInt32).toInt32) &&& (1 : Int32)) = (0 : Int32))))), .val (.ref b7), .val (.ref b14), .val (.ref b24), .unset, .unset, .unset, .unset] [(.ref b7)])) _
      exact kk
    obtain ⟨cq33, kq33, q33a, q33b, q33c⟩ := isOf hZ rfl E_b7
    obtain ⟨_, _, ⟨T33, L33, k33, n33⟩, -, X33, ⟨Lc33, hQ33, l33, y33, z33⟩, st33⟩ := X30.virtualBack hx (y := (⟨"com/example/postie/postie/store/MessageId", "hashCode", "()I"⟩ : MethodName)) (z := (⟨"com/example/postie/postie/store/MessageId", "hashCode", "()I"⟩ : MethodName)) hown (mvT hZ (hw _ (List.mem_of_getElem? (i := 13) rfl))) (mvT hZ (hw _ (List.mem_of_getElem? (i := 14) rfl))) (notFace_of_selects (args := #[]) (mvT hZ (hw _ (List.mem_of_getElem? (i := 16) rfl)))) (mvT hZ (hw _ (List.mem_of_getElem? (i := 16) rfl))) (mvT hZ (hw _ (List.mem_of_getElem? (i := 15) rfl))) (by decide) (backOf (W := 0) (rmH l Z a0 hw [] b7 (q1) (q2) T30.heap n0 Zs31 F_high_b7 F_low_b7) hZ (hw _ (List.mem_of_getElem? (i := 17) rfl)) (hw _ (List.mem_of_getElem? (i := 2) rfl)) (by decide) (by decide)) q33a q33c (g := (mkF m 88 #[.val (.long q1), .second, .val (.long q2), .second, .val (.int p3), .val (.int (p3 &&& (63 : Int32))), .val (.long ((1 : Int64) <<< ((p3 &&& (63 : Int32)) &&& 0x3f).toInt64)), .second, .val (.int (bI (¬ ((((p3.toUInt32 >>> ((6 : Int32) &&& 31).toUInt32).toInt32) &&& (1 : Int32)) = (0 : Int32))))), .val (.ref b7), .val (.ref b14), .val (.ref b24), .unset, .unset, .unset, .unset] [(.ref b7)])) rfl (by rw [hml]; rfl) (Steps.refl _) (argsL := []) (rest := []) (lenOf pd___I rfl) rfl (by show 2 * 0 + _ ≤ _; exact Nat.le_of_eq rfl) (hb hby at_88) (fun _ _ => ⟨rfl, rfl, (by decide : 3 + 0 ≤ _), (by decide : 6 + 0 ≤ _)⟩)
    dsimp only [Pt.U, Pt.locs, Pt.cells, Pt.slots] at X33 l33 y33 z33 st33 hQ33
    subst l33 y33 z33
    obtain ⟨rfl, N33q, hh33⟩ := hQ33
    have N33 := Fr.app N30 N33q
    have pre34 : ∀ tgt, Steps p.tables e below (T33.setTop (mkF m 95 #[.val (.long q1), .second, .val (.long q2), .second, .val (.int p3), .val (.int (p3 &&& (63 : Int32))), .val (.long ((1 : Int64) <<< ((p3 &&& (63 : Int32)) &&& 0x3f).toInt64)), .second, .val (.int (bI (¬ ((((p3.toUInt32 >>> ((6 : Int32) &&& 31).toUInt32).toInt32) &&& (1 : Int32)) = (0 : Int32))))), .val (.ref b7), .val (.ref b14), .val (.ref b24), .val (.int (own_hash q1 q2)), .unset, .unset, .unset] [(.ref b7)])) tgt → Steps p.tables e below (s₁.setTop (entryFrame m #[(.long q1), (.long q2), (.int p3)] maxLocals)) tgt := by
      intro tgt kk
      refine pre32 tgt ?_
      refine st33.trans ?_
      show Steps p.tables e below (T33.setTop (mkF m 91 #[.val (.long q1), .second, .val (.long q2), .second, .val (.int p3), .val (.int (p3 &&& (63 : Int32))), .val (.long ((1 : Int64) <<< ((p3 &&& (63 : Int32)) &&& 0x3f).toInt64)), .second, .val (.int (bI (¬ ((((p3.toUInt32 >>> ((6 : Int32) &&& 31).toUInt32).toInt32) &&& (1 : Int32)) = (0 : Int32))))), .val (.ref b7), .val (.ref b14), .val (.ref b24), .unset, .unset, .unset, .unset] [(.int (own_hash q1 q2))])) _
      refine XS.istore X33.here hx rfl (hb hby at_91) rfl (l' := #[.val (.long q1), .second, .val (.long q2), .second, .val (.int p3), .val (.int (p3 &&& (63 : Int32))), .val (.long ((1 : Int64) <<< ((p3 &&& (63 : Int32)) &&& 0x3f).toInt64)), .second, .val (.int (bI (¬ ((((p3.toUInt32 >>> ((6 : Int32) &&& 31).toUInt32).toInt32) &&& (1 : Int32)) = (0 : Int32))))), .val (.ref b7), .val (.ref b14), .val (.ref b24), .val (.int (own_hash q1 q2)), .unset, .unset, .unset]) rfl ?_
      show Steps p.tables e below (T33.setTop (mkF m 93 #[.val (.long q1), .second, .val (.long q2), .second, .val (.int p3), .val (.int (p3 &&& (63 : Int32))), .val (.long ((1 : Int64) <<< ((p3 &&& (63 : Int32)) &&& 0x3f).toInt64)), .second, .val (.int (bI (¬ ((((p3.toUInt32 >>> ((6 : Int32) &&& 31).toUInt32).toInt32) &&& (1 : Int32)) = (0 : Int32))))), .val (.ref b7), .val (.ref b14), .val (.ref b24), .val (.int (own_hash q1 q2)), .unset, .unset, .unset] [])) _
      refine XS.aload X33.here hx rfl (hb hby at_93) rfl rfl ?_
      show Steps p.tables e below (T33.setTop (mkF m 95 #[.val (.long q1), .second, .val (.long q2), .second, .val (.int p3), .val (.int (p3 &&& (63 : Int32))), .val (.long ((1 : Int64) <<< ((p3 &&& (63 : Int32)) &&& 0x3f).toInt64)), .second, .val (.int (bI (¬ ((((p3.toUInt32 >>> ((6 : Int32) &&& 31).toUInt32).toInt32) &&& (1 : Int32)) = (0 : Int32))))), .val (.ref b7), .val (.ref b14), .val (.ref b24), .val (.int (own_hash q1 q2)), .unset, .unset, .unset] [(.ref b7)])) _
      exact kk
    obtain ⟨cq35, kq35, q35a, q35b, q35c⟩ := isOf hZ hh33 E_b7
    obtain ⟨_, _, ⟨T35, L35, k35, n35⟩, -, X35, ⟨Lc35, hQ35, l35, y35, z35⟩, st35⟩ := X33.virtualBack hx (y := (⟨"com/example/postie/postie/store/MessageId", "hashCode", "()I"⟩ : MethodName)) (z := (⟨"com/example/postie/postie/store/MessageId", "hashCode", "()I"⟩ : MethodName)) hown (mvT hZ (hw _ (List.mem_of_getElem? (i := 13) rfl))) (mvT hZ (hw _ (List.mem_of_getElem? (i := 14) rfl))) (notFace_of_selects (args := #[]) (mvT hZ (hw _ (List.mem_of_getElem? (i := 16) rfl)))) (mvT hZ (hw _ (List.mem_of_getElem? (i := 16) rfl))) (mvT hZ (hw _ (List.mem_of_getElem? (i := 15) rfl))) (by decide) (backOf (W := 0) (rmH l Z a0 hw [] b7 (q1) (q2) T30.heap n0 Zs31 F_high_b7 F_low_b7) hZ (hw _ (List.mem_of_getElem? (i := 17) rfl)) (hw _ (List.mem_of_getElem? (i := 2) rfl)) (by decide) (by decide)) q35a q35c (g := (mkF m 95 #[.val (.long q1), .second, .val (.long q2), .second, .val (.int p3), .val (.int (p3 &&& (63 : Int32))), .val (.long ((1 : Int64) <<< ((p3 &&& (63 : Int32)) &&& 0x3f).toInt64)), .second, .val (.int (bI (¬ ((((p3.toUInt32 >>> ((6 : Int32) &&& 31).toUInt32).toInt32) &&& (1 : Int32)) = (0 : Int32))))), .val (.ref b7), .val (.ref b14), .val (.ref b24), .val (.int (own_hash q1 q2)), .unset, .unset, .unset] [(.ref b7)])) rfl (by rw [hml]; rfl) (Steps.refl _) (argsL := []) (rest := []) (lenOf pd___I rfl) rfl (by show 2 * 0 + _ ≤ _; exact Nat.le_of_eq rfl) (hb hby at_95) (fun _ _ => ⟨rfl, hh33, (by decide : 3 + 0 ≤ _), (by decide : 6 + 0 ≤ _)⟩)
    dsimp only [Pt.U, Pt.locs, Pt.cells, Pt.slots] at X35 l35 y35 z35 st35 hQ35
    subst l35 y35 z35
    obtain ⟨rfl, N35q, hh35⟩ := hQ35
    have N35 := Fr.app N33 N35q
    have pre36 : ∀ tgt, Steps p.tables e below (T35.setTop (mkF m 100 #[.val (.long q1), .second, .val (.long q2), .second, .val (.int p3), .val (.int (p3 &&& (63 : Int32))), .val (.long ((1 : Int64) <<< ((p3 &&& (63 : Int32)) &&& 0x3f).toInt64)), .second, .val (.int (bI (¬ ((((p3.toUInt32 >>> ((6 : Int32) &&& 31).toUInt32).toInt32) &&& (1 : Int32)) = (0 : Int32))))), .val (.ref b7), .val (.ref b14), .val (.ref b24), .val (.int (own_hash q1 q2)), .unset, .unset, .unset] [(.int (own_hash q1 q2)), (.int (own_hash q1 q2))])) tgt → Steps p.tables e below (s₁.setTop (entryFrame m #[(.long q1), (.long q2), (.int p3)] maxLocals)) tgt := by
      intro tgt kk
      refine pre34 tgt ?_
      refine st35.trans ?_
      show Steps p.tables e below (T35.setTop (mkF m 98 #[.val (.long q1), .second, .val (.long q2), .second, .val (.int p3), .val (.int (p3 &&& (63 : Int32))), .val (.long ((1 : Int64) <<< ((p3 &&& (63 : Int32)) &&& 0x3f).toInt64)), .second, .val (.int (bI (¬ ((((p3.toUInt32 >>> ((6 : Int32) &&& 31).toUInt32).toInt32) &&& (1 : Int32)) = (0 : Int32))))), .val (.ref b7), .val (.ref b14), .val (.ref b24), .val (.int (own_hash q1 q2)), .unset, .unset, .unset] [(.int (own_hash q1 q2))])) _
      refine XS.iload X35.here hx rfl (hb hby at_98) rfl ?_
      show Steps p.tables e below (T35.setTop (mkF m 100 #[.val (.long q1), .second, .val (.long q2), .second, .val (.int p3), .val (.int (p3 &&& (63 : Int32))), .val (.long ((1 : Int64) <<< ((p3 &&& (63 : Int32)) &&& 0x3f).toInt64)), .second, .val (.int (bI (¬ ((((p3.toUInt32 >>> ((6 : Int32) &&& 31).toUInt32).toInt32) &&& (1 : Int32)) = (0 : Int32))))), .val (.ref b7), .val (.ref b14), .val (.ref b24), .val (.int (own_hash q1 q2)), .unset, .unset, .unset] [(.int (own_hash q1 q2)), (.int (own_hash q1 q2))])) _
      exact kk
    obtain ⟨T38, lo38, X38, N38, e38, pre38⟩ : ∃ (T' : State) (lo : List Loc), Stand p l e room_1 s m #[(.long q1), (.long q2), (.int p3)] below meth c T' lo 3 6 ∧ Fr n0 lo ∧ T'.heap = T30.heap ∧ ∀ tgt, Steps p.tables e below (T'.setTop (mkF m 108 #[.val (.long q1), .second, .val (.long q2), .second, .val (.int p3), .val (.int (p3 &&& (63 : Int32))), .val (.long ((1 : Int64) <<< ((p3 &&& (63 : Int32)) &&& 0x3f).toInt64)), .second, .val (.int (bI (¬ ((((p3.toUInt32 >>> ((6 : Int32) &&& 31).toUInt32).toInt32) &&& (1 : Int32)) = (0 : Int32))))), .val (.ref b7), .val (.ref b14), .val (.ref b24), .val (.int (own_hash q1 q2)), .unset, .unset, .unset] [(.int (bI ((own_hash q1 q2) = (own_hash q1 q2))))])) tgt → Steps p.tables e below (s₁.setTop (entryFrame m #[(.long q1), (.long q2), (.int p3)] maxLocals)) tgt := by
      by_cases hc100_37 : (own_hash q1 q2) = (own_hash q1 q2)
      · skip
        refine ⟨T35, _, X35, N35, hh35, fun tgt kk => ?_⟩
        have kq39 : ((.int (bI ((own_hash q1 q2) = (own_hash q1 q2)))) : Value) = (.int (1 : Int32)) := (congrArg Value.int (bI_t hc100_37))
        rw [kq39] at kk
        refine pre36 tgt ?_
        refine XS.icmpNo X35.here hx rfl (hb hby at_100) rfl (XT.ii_ne_f hc100_37) ?_
        show Steps p.tables e below (T35.setTop (mkF m 103 #[.val (.long q1), .second, .val (.long q2), .second, .val (.int p3), .val (.int (p3 &&& (63 : Int32))), .val (.long ((1 : Int64) <<< ((p3 &&& (63 : Int32)) &&& 0x3f).toInt64)), .second, .val (.int (bI (¬ ((((p3.toUInt32 >>> ((6 : Int32) &&& 31).toUInt32).toInt32) &&& (1 : Int32)) = (0 : Int32))))), .val (.ref b7), .val (.ref b14), .val (.ref b24), .val (.int (own_hash q1 q2)), .unset, .unset, .unset] [])) _
        refine XS.iconst X35.here hx rfl (hb hby at_103) ?_
        show Steps p.tables e below (T35.setTop (mkF m 104 #[.val (.long q1), .second, .val (.long q2), .second, .val (.int p3), .val (.int (p3 &&& (63 : Int32))), .val (.long ((1 : Int64) <<< ((p3 &&& (63 : Int32)) &&& 0x3f).toInt64)), .second, .val (.int (bI (¬ ((((p3.toUInt32 >>> ((6 : Int32) &&& 31).toUInt32).toInt32) &&& (1 : Int32)) = (0 : Int32))))), .val (.ref b7), .val (.ref b14), .val (.ref b24), .val (.int (own_hash q1 q2)), .unset, .unset, .unset] [(.int (1 : Int32))])) _
        refine XS.goto X35.here hx rfl (pc0 := 104) (pc' := 108) rfl (hb hby at_104) (by decide) (by decide) ?_
        show Steps p.tables e below (T35.setTop (mkF m 108 #[.val (.long q1), .second, .val (.long q2), .second, .val (.int p3), .val (.int (p3 &&& (63 : Int32))), .val (.long ((1 : Int64) <<< ((p3 &&& (63 : Int32)) &&& 0x3f).toInt64)), .second, .val (.int (bI (¬ ((((p3.toUInt32 >>> ((6 : Int32) &&& 31).toUInt32).toInt32) &&& (1 : Int32)) = (0 : Int32))))), .val (.ref b7), .val (.ref b14), .val (.ref b24), .val (.int (own_hash q1 q2)), .unset, .unset, .unset] [(.int (1 : Int32))])) _
        exact kk
      · skip
        refine ⟨T35, _, X35, N35, hh35, fun tgt kk => ?_⟩
        have kq40 : ((.int (bI ((own_hash q1 q2) = (own_hash q1 q2)))) : Value) = (.int (0 : Int32)) := (congrArg Value.int (bI_f hc100_37))
        rw [kq40] at kk
        refine pre36 tgt ?_
        refine XS.icmpYes X35.here hx rfl (pc0 := 100) (pc' := 107) rfl (hb hby at_100) rfl (XT.ii_ne_t hc100_37) (by decide) (by decide) ?_
        show Steps p.tables e below (T35.setTop (mkF m 107 #[.val (.long q1), .second, .val (.long q2), .second, .val (.int p3), .val (.int (p3 &&& (63 : Int32))), .val (.long ((1 : Int64) <<< ((p3 &&& (63 : Int32)) &&& 0x3f).toInt64)), .second, .val (.int (bI (¬ ((((p3.toUInt32 >>> ((6 : Int32) &&& 31).toUInt32).toInt32) &&& (1 : Int32)) = (0 : Int32))))), .val (.ref b7), .val (.ref b14), .val (.ref b24), .val (.int (own_hash q1 q2)), .unset, .unset, .unset] [])) _
        refine XS.iconst X35.here hx rfl (hb hby at_107) ?_
        show Steps p.tables e below (T35.setTop (mkF m 108 #[.val (.long q1), .second, .val (.long q2), .second, .val (.int p3), .val (.int (p3 &&& (63 : Int32))), .val (.long ((1 : Int64) <<< ((p3 &&& (63 : Int32)) &&& 0x3f).toInt64)), .second, .val (.int (bI (¬ ((((p3.toUInt32 >>> ((6 : Int32) &&& 31).toUInt32).toInt32) &&& (1 : Int32)) = (0 : Int32))))), .val (.ref b7), .val (.ref b14), .val (.ref b24), .val (.int (own_hash q1 q2)), .unset, .unset, .unset] [(.int (0 : Int32))])) _
        exact kk
    have pre41 : ∀ tgt, Steps p.tables e below (T38.setTop (mkF m 114 #[.val (.long q1), .second, .val (.long q2), .second, .val (.int p3), .val (.int (p3 &&& (63 : Int32))), .val (.long ((1 : Int64) <<< ((p3 &&& (63 : Int32)) &&& 0x3f).toInt64)), .second, .val (.int (bI (¬ ((((p3.toUInt32 >>> ((6 : Int32) &&& 31).toUInt32).toInt32) &&& (1 : Int32)) = (0 : Int32))))), .val (.ref b7), .val (.ref b14), .val (.ref b24), .val (.int (own_hash q1 q2)), .val (.int (bI ((own_hash q1 q2) = (own_hash q1 q2)))), .unset, .unset] [(.ref b7), (.ref b14)])) tgt → Steps p.tables e below (s₁.setTop (entryFrame m #[(.long q1), (.long q2), (.int p3)] maxLocals)) tgt := by
      intro tgt kk
      refine pre38 tgt ?_
      refine XS.istore X38.here hx rfl (hb hby at_108) rfl (l' := #[.val (.long q1), .second, .val (.long q2), .second, .val (.int p3), .val (.int (p3 &&& (63 : Int32))), .val (.long ((1 : Int64) <<< ((p3 &&& (63 : Int32)) &&& 0x3f).toInt64)), .second, .val (.int (bI (¬ ((((p3.toUInt32 >>> ((6 : Int32) &&& 31).toUInt32).toInt32) &&& (1 : Int32)) = (0 : Int32))))), .val (.ref b7), .val (.ref b14), .val (.ref b24), .val (.int (own_hash q1 q2)), .val (.int (bI ((own_hash q1 q2) = (own_hash q1 q2)))), .unset, .unset]) rfl ?_
      show Steps p.tables e below (T38.setTop (mkF m 110 #[.val (.long q1), .second, .val (.long q2), .second, .val (.int p3), .val (.int (p3 &&& (63 : Int32))), .val (.long ((1 : Int64) <<< ((p3 &&& (63 : Int32)) &&& 0x3f).toInt64)), .second, .val (.int (bI (¬ ((((p3.toUInt32 >>> ((6 : Int32) &&& 31).toUInt32).toInt32) &&& (1 : Int32)) = (0 : Int32))))), .val (.ref b7), .val (.ref b14), .val (.ref b24), .val (.int (own_hash q1 q2)), .val (.int (bI ((own_hash q1 q2) = (own_hash q1 q2)))), .unset, .unset] [])) _
      refine XS.aload X38.here hx rfl (hb hby at_110) rfl rfl ?_
      show Steps p.tables e below (T38.setTop (mkF m 112 #[.val (.long q1), .second, .val (.long q2), .second, .val (.int p3), .val (.int (p3 &&& (63 : Int32))), .val (.long ((1 : Int64) <<< ((p3 &&& (63 : Int32)) &&& 0x3f).toInt64)), .second, .val (.int (bI (¬ ((((p3.toUInt32 >>> ((6 : Int32) &&& 31).toUInt32).toInt32) &&& (1 : Int32)) = (0 : Int32))))), .val (.ref b7), .val (.ref b14), .val (.ref b24), .val (.int (own_hash q1 q2)), .val (.int (bI ((own_hash q1 q2) = (own_hash q1 q2)))), .unset, .unset] [(.ref b14)])) _
      refine XS.aload X38.here hx rfl (hb hby at_112) rfl rfl ?_
      show Steps p.tables e below (T38.setTop (mkF m 114 #[.val (.long q1), .second, .val (.long q2), .second, .val (.int p3), .val (.int (p3 &&& (63 : Int32))), .val (.long ((1 : Int64) <<< ((p3 &&& (63 : Int32)) &&& 0x3f).toInt64)), .second, .val (.int (bI (¬ ((((p3.toUInt32 >>> ((6 : Int32) &&& 31).toUInt32).toInt32) &&& (1 : Int32)) = (0 : Int32))))), .val (.ref b7), .val (.ref b14), .val (.ref b24), .val (.int (own_hash q1 q2)), .val (.int (bI ((own_hash q1 q2) = (own_hash q1 q2)))), .unset, .unset] [(.ref b7), (.ref b14)])) _
      exact kk
    obtain ⟨cq42, kq42, q42a, q42b, q42c⟩ := isOf hZ e38 E_b14
    obtain ⟨_, _, ⟨T42, L42, k42, n42⟩, -, X42, ⟨Lc42, hQ42, l42, y42, z42⟩, st42⟩ := X38.virtualBack hx (y := (⟨"com/example/postie/postie/store/MessageId", "equals", "(Ljava/lang/Object;)Z"⟩ : MethodName)) (z := (⟨"com/example/postie/postie/store/MessageId", "equals", "(Ljava/lang/Object;)Z"⟩ : MethodName)) hown (mvT hZ (hw _ (List.mem_of_getElem? (i := 22) rfl))) (mvT hZ (hw _ (List.mem_of_getElem? (i := 23) rfl))) (notFace_of_selects (args := #[]) (mvT hZ (hw _ (List.mem_of_getElem? (i := 25) rfl)))) (mvT hZ (hw _ (List.mem_of_getElem? (i := 25) rfl))) (mvT hZ (hw _ (List.mem_of_getElem? (i := 24) rfl))) (by decide) (backOf (W := 0) (rmE l Z a0 hw [] b14 b7 (q1) (q2) (q1) (q2) T30.heap n0 Zs31 F_high_b14 F_low_b14 F_high_b7 F_low_b7 E_b7) hZ (hw _ (List.mem_of_getElem? (i := 26) rfl)) (hw _ (List.mem_of_getElem? (i := 2) rfl)) (by decide) (by decide)) q42a q42c (g := (mkF m 114 #[.val (.long q1), .second, .val (.long q2), .second, .val (.int p3), .val (.int (p3 &&& (63 : Int32))), .val (.long ((1 : Int64) <<< ((p3 &&& (63 : Int32)) &&& 0x3f).toInt64)), .second, .val (.int (bI (¬ ((((p3.toUInt32 >>> ((6 : Int32) &&& 31).toUInt32).toInt32) &&& (1 : Int32)) = (0 : Int32))))), .val (.ref b7), .val (.ref b14), .val (.ref b24), .val (.int (own_hash q1 q2)), .val (.int (bI ((own_hash q1 q2) = (own_hash q1 q2)))), .unset, .unset] [(.ref b7), (.ref b14)])) rfl (by rw [hml]; rfl) (Steps.refl _) (argsL := [(.ref b7)]) (rest := []) (lenOf pd__Ljava_lang_Object__Z rfl) rfl (by show 2 * 0 + _ ≤ _; exact Nat.le_of_eq rfl) (hb hby at_114) (fun _ _ => ⟨rfl, e38, (by decide : 3 + 0 ≤ _), (by decide : 6 + 0 ≤ _)⟩)
    dsimp only [Pt.U, Pt.locs, Pt.cells, Pt.slots] at X42 l42 y42 z42 st42 hQ42
    subst l42 y42 z42
    obtain ⟨rfl, N42q, hh42⟩ := hQ42
    have N42 := Fr.app N38 N42q
    have pre43 : ∀ tgt, Steps p.tables e below (T42.setTop (mkF m 117 #[.val (.long q1), .second, .val (.long q2), .second, .val (.int p3), .val (.int (p3 &&& (63 : Int32))), .val (.long ((1 : Int64) <<< ((p3 &&& (63 : Int32)) &&& 0x3f).toInt64)), .second, .val (.int (bI (¬ ((((p3.toUInt32 >>> ((6 : Int32) &&& 31).toUInt32).toInt32) &&& (1 : Int32)) = (0 : Int32))))), .val (.ref b7), .val (.ref b14), .val (.ref b24), .val (.int (own_hash q1 q2)), .val (.int (bI ((own_hash q1 q2) = (own_hash q1 q2)))), .unset, .unset] [(.int (bI ((q1 = q1) ∧ (q2 = q2))))])) tgt → Steps p.tables e below (s₁.setTop (entryFrame m #[(.long q1), (.long q2), (.int p3)] maxLocals)) tgt := by
      intro tgt kk
      refine pre41 tgt ?_
      refine st42.trans ?_
      show Steps p.tables e below (T42.setTop (mkF m 117 #[.val (.long q1), .second, .val (.long q2), .second, .val (.int p3), .val (.int (p3 &&& (63 : Int32))), .val (.long ((1 : Int64) <<< ((p3 &&& (63 : Int32)) &&& 0x3f).toInt64)), .second, .val (.int (bI (¬ ((((p3.toUInt32 >>> ((6 : Int32) &&& 31).toUInt32).toInt32) &&& (1 : Int32)) = (0 : Int32))))), .val (.ref b7), .val (.ref b14), .val (.ref b24), .val (.int (own_hash q1 q2)), .val (.int (bI ((own_hash q1 q2) = (own_hash q1 q2)))), .unset, .unset] [(.int (bI ((q1 = q1) ∧ (q2 = q2))))])) _
      exact kk
    obtain ⟨T49, lo49, X49, N49, e49, pre49⟩ : ∃ (T' : State) (lo : List Loc), Stand p l e room_1 s m #[(.long q1), (.long q2), (.int p3)] below meth c T' lo 3 6 ∧ Fr n0 lo ∧ T'.heap = T30.heap ∧ ∀ tgt, Steps p.tables e below (T'.setTop (mkF m 135 #[.val (.long q1), .second, .val (.long q2), .second, .val (.int p3), .val (.int (p3 &&& (63 : Int32))), .val (.long ((1 : Int64) <<< ((p3 &&& (63 : Int32)) &&& 0x3f).toInt64)), .second, .val (.int (bI (¬ ((((p3.toUInt32 >>> ((6 : Int32) &&& 31).toUInt32).toInt32) &&& (1 : Int32)) = (0 : Int32))))), .val (.ref b7), .val (.ref b14), .val (.ref b24), .val (.int (own_hash q1 q2)), .val (.int (bI ((own_hash q1 q2) = (own_hash q1 q2)))), .unset, .unset] [(.int (bI (((q1 = q1) ∧ (q2 = q2)) ∧ ((own_hash q1 q2) = (own_hash q1 q2)))))])) tgt → Steps p.tables e below (s₁.setTop (entryFrame m #[(.long q1), (.long q2), (.int p3)] maxLocals)) tgt := by
      by_cases hc117_44 : (q1 = q1) ∧ (q2 = q2)
      · skip
        have pre45 : ∀ tgt, Steps p.tables e below (T42.setTop (mkF m 122 #[.val (.long q1), .second, .val (.long q2), .second, .val (.int p3), .val (.int (p3 &&& (63 : Int32))), .val (.long ((1 : Int64) <<< ((p3 &&& (63 : Int32)) &&& 0x3f).toInt64)), .second, .val (.int (bI (¬ ((((p3.toUInt32 >>> ((6 : Int32) &&& 31).toUInt32).toInt32) &&& (1 : Int32)) = (0 : Int32))))), .val (.ref b7), .val (.ref b14), .val (.ref b24), .val (.int (own_hash q1 q2)), .val (.int (bI ((own_hash q1 q2) = (own_hash q1 q2)))), .unset, .unset] [(.ref b14)])) tgt → Steps p.tables e below (s₁.setTop (entryFrame m #[(.long q1), (.long q2), (.int p3)] maxLocals)) tgt := by
          intro tgt kk
          refine pre43 tgt ?_
          refine XS.ifNo X42.here hx rfl (hb hby at_117) rfl (bB_eq_f hc117_44) ?_
          show Steps p.tables e below (T42.setTop (mkF m 120 #[.val (.long q1), .second, .val (.long q2), .second, .val (.int p3), .val (.int (p3 &&& (63 : Int32))), .val (.long ((1 : Int64) <<< ((p3 &&& (63 : Int32)) &&& 0x3f).toInt64)), .second, .val (.int (bI (¬ ((((p3.toUInt32 >>> ((6 : Int32) &&& 31).toUInt32).toInt32) &&& (1 : Int32)) = (0 : Int32))))), .val (.ref b7), .val (.ref b14), .val (.ref b24), .val (.int (own_hash q1 q2)), .val (.int (bI ((own_hash q1 q2) = (own_hash q1 q2)))), .unset, .unset] [])) _
          refine XS.aload X42.here hx rfl (hb hby at_120) rfl rfl ?_
          show Steps p.tables e below (T42.setTop (mkF m 122 #[.val (.long q1), .second, .val (.long q2), .second, .val (.int p3), .val (.int (p3 &&& (63 : Int32))), .val (.long ((1 : Int64) <<< ((p3 &&& (63 : Int32)) &&& 0x3f).toInt64)), .second, .val (.int (bI (¬ ((((p3.toUInt32 >>> ((6 : Int32) &&& 31).toUInt32).toInt32) &&& (1 : Int32)) = (0 : Int32))))), .val (.ref b7), .val (.ref b14), .val (.ref b24), .val (.int (own_hash q1 q2)), .val (.int (bI ((own_hash q1 q2) = (own_hash q1 q2)))), .unset, .unset] [(.ref b14)])) _
          exact kk
        obtain ⟨cq46, kq46, q46a, q46b, q46c⟩ := isOf hZ hh42 E_b14
        obtain ⟨_, _, ⟨T46, L46, k46, n46⟩, -, X46, ⟨Lc46, hQ46, l46, y46, z46⟩, st46⟩ := X42.virtualBack hx (y := (⟨"com/example/postie/postie/store/MessageId", "hashCode", "()I"⟩ : MethodName)) (z := (⟨"com/example/postie/postie/store/MessageId", "hashCode", "()I"⟩ : MethodName)) hown (mvT hZ (hw _ (List.mem_of_getElem? (i := 13) rfl))) (mvT hZ (hw _ (List.mem_of_getElem? (i := 14) rfl))) (notFace_of_selects (args := #[]) (mvT hZ (hw _ (List.mem_of_getElem? (i := 16) rfl)))) (mvT hZ (hw _ (List.mem_of_getElem? (i := 16) rfl))) (mvT hZ (hw _ (List.mem_of_getElem? (i := 15) rfl))) (by decide) (backOf (W := 0) (rmH l Z a0 hw [] b14 (q1) (q2) T30.heap n0 Zs31 F_high_b14 F_low_b14) hZ (hw _ (List.mem_of_getElem? (i := 17) rfl)) (hw _ (List.mem_of_getElem? (i := 2) rfl)) (by decide) (by decide)) q46a q46c (g := (mkF m 122 #[.val (.long q1), .second, .val (.long q2), .second, .val (.int p3), .val (.int (p3 &&& (63 : Int32))), .val (.long ((1 : Int64) <<< ((p3 &&& (63 : Int32)) &&& 0x3f).toInt64)), .second, .val (.int (bI (¬ ((((p3.toUInt32 >>> ((6 : Int32) &&& 31).toUInt32).toInt32) &&& (1 : Int32)) = (0 : Int32))))), .val (.ref b7), .val (.ref b14), .val (.ref b24), .val (.int (own_hash q1 q2)), .val (.int (bI ((own_hash q1 q2) = (own_hash q1 q2)))), .unset, .unset] [(.ref b14)])) rfl (by rw [hml]; rfl) (Steps.refl _) (argsL := []) (rest := []) (lenOf pd___I rfl) rfl (by show 2 * 0 + _ ≤ _; exact Nat.le_of_eq rfl) (hb hby at_122) (fun _ _ => ⟨rfl, hh42, (by decide : 3 + 0 ≤ _), (by decide : 6 + 0 ≤ _)⟩)
        dsimp only [Pt.U, Pt.locs, Pt.cells, Pt.slots] at X46 l46 y46 z46 st46 hQ46
        subst l46 y46 z46
        obtain ⟨rfl, N46q, hh46⟩ := hQ46
        have N46 := Fr.app N42 N46q
        have pre47 : ∀ tgt, Steps p.tables e below (T46.setTop (mkF m 127 #[.val (.long q1), .second, .val (.long q2), .second, .val (.int p3), .val (.int (p3 &&& (63 : Int32))), .val (.long ((1 : Int64) <<< ((p3 &&& (63 : Int32)) &&& 0x3f).toInt64)), .second, .val (.int (bI (¬ ((((p3.toUInt32 >>> ((6 : Int32) &&& 31).toUInt32).toInt32) &&& (1 : Int32)) = (0 : Int32))))), .val (.ref b7), .val (.ref b14), .val (.ref b24), .val (.int (own_hash q1 q2)), .val (.int (bI ((own_hash q1 q2) = (own_hash q1 q2)))), .unset, .unset] [(.int (own_hash q1 q2)), (.int (own_hash q1 q2))])) tgt → Steps p.tables e below (s₁.setTop (entryFrame m #[(.long q1), (.long q2), (.int p3)] maxLocals)) tgt := by
          intro tgt kk
          refine pre45 tgt ?_
          refine st46.trans ?_
          show Steps p.tables e below (T46.setTop (mkF m 125 #[.val (.long q1), .second, .val (.long q2), .second, .val (.int p3), .val (.int (p3 &&& (63 : Int32))), .val (.long ((1 : Int64) <<< ((p3 &&& (63 : Int32)) &&& 0x3f).toInt64)), .second, .val (.int (bI (¬ ((((p3.toUInt32 >>> ((6 : Int32) &&& 31).toUInt32).toInt32) &&& (1 : Int32)) = (0 : Int32))))), .val (.ref b7), .val (.ref b14), .val (.ref b24), .val (.int (own_hash q1 q2)), .val (.int (bI ((own_hash q1 q2) = (own_hash q1 q2)))), .unset, .unset] [(.int (own_hash q1 q2))])) _
          refine XS.iload X46.here hx rfl (hb hby at_125) rfl ?_
          show Steps p.tables e below (T46.setTop (mkF m 127 #[.val (.long q1), .second, .val (.long q2), .second, .val (.int p3), .val (.int (p3 &&& (63 : Int32))), .val (.long ((1 : Int64) <<< ((p3 &&& (63 : Int32)) &&& 0x3f).toInt64)), .second, .val (.int (bI (¬ ((((p3.toUInt32 >>> ((6 : Int32) &&& 31).toUInt32).toInt32) &&& (1 : Int32)) = (0 : Int32))))), .val (.ref b7), .val (.ref b14), .val (.ref b24), .val (.int (own_hash q1 q2)), .val (.int (bI ((own_hash q1 q2) = (own_hash q1 q2)))), .unset, .unset] [(.int (own_hash q1 q2)), (.int (own_hash q1 q2))])) _
          exact kk
        by_cases hc127_48 : (own_hash q1 q2) = (own_hash q1 q2)
        · skip
          refine ⟨T46, _, X46, N46, hh46, fun tgt kk => ?_⟩
          have kq50 : ((.int (bI (((q1 = q1) ∧ (q2 = q2)) ∧ ((own_hash q1 q2) = (own_hash q1 q2))))) : Value) = (.int (1 : Int32)) := ((congrArg Value.int (bI_iff (and_iff_right hc117_44))).trans (congrArg Value.int (bI_t hc127_48)))
          rw [kq50] at kk
          refine pre47 tgt ?_
          refine XS.icmpNo X46.here hx rfl (hb hby at_127) rfl (XT.ii_ne_f hc127_48) ?_
          show Steps p.tables e below (T46.setTop (mkF m 130 #[.val (.long q1), .second, .val (.long q2), .second, .val (.int p3), .val (.int (p3 &&& (63 : Int32))), .val (.long ((1 : Int64) <<< ((p3 &&& (63 : Int32)) &&& 0x3f).toInt64)), .second, .val (.int (bI (¬ ((((p3.toUInt32 >>> ((6 : Int32) &&& 31).toUInt32).toInt32) &&& (1 : Int32)) = (0 : Int32))))), .val (.ref b7), .val (.ref b14), .val (.ref b24), .val (.int (own_hash q1 q2)), .val (.int (bI ((own_hash q1 q2) = (own_hash q1 q2)))), .unset, .unset] [])) _
          refine XS.iconst X46.here hx rfl (hb hby at_130) ?_
          show Steps p.tables e below (T46.setTop (mkF m 131 #[.val (.long q1), .second, .val (.long q2), .second, .val (.int p3), .val (.int (p3 &&& (63 : Int32))), .val (.long ((1 : Int64) <<< ((p3 &&& (63 : Int32)) &&& 0x3f).toInt64)), .second, .val (.int (bI (¬ ((((p3.toUInt32 >>> ((6 : Int32) &&& 31).toUInt32).toInt32) &&& (1 : Int32)) = (0 : Int32))))), .val (.ref b7), .val (.ref b14), .val (.ref b24), .val (.int (own_hash q1 q2)), .val (.int (bI ((own_hash q1 q2) = (own_hash q1 q2)))), .unset, .unset] [(.int (1 : Int32))])) _
          refine XS.goto X46.here hx rfl (pc0 := 131) (pc' := 135) rfl (hb hby at_131) (by decide) (by decide) ?_
          show Steps p.tables e below (T46.setTop (mkF m 135 #[.val (.long q1), .second, .val (.long q2), .second, .val (.int p3), .val (.int (p3 &&& (63 : Int32))), .val (.long ((1 : Int64) <<< ((p3 &&& (63 : Int32)) &&& 0x3f).toInt64)), .second, .val (.int (bI (¬ ((((p3.toUInt32 >>> ((6 : Int32) &&& 31).toUInt32).toInt32) &&& (1 : Int32)) = (0 : Int32))))), .val (.ref b7), .val (.ref b14), .val (.ref b24), .val (.int (own_hash q1 q2)), .val (.int (bI ((own_hash q1 q2) = (own_hash q1 q2)))), .unset, .unset] [(.int (1 : Int32))])) _
          exact kk
        · skip
          refine ⟨T46, _, X46, N46, hh46, fun tgt kk => ?_⟩
          have kq51 : ((.int (bI (((q1 = q1) ∧ (q2 = q2)) ∧ ((own_hash q1 q2) = (own_hash q1 q2))))) : Value) = (.int (0 : Int32)) := ((congrArg Value.int (bI_iff (and_iff_right hc117_44))).trans (congrArg Value.int (bI_f hc127_48)))
          rw [kq51] at kk
          refine pre47 tgt ?_
          refine XS.icmpYes X46.here hx rfl (pc0 := 127) (pc' := 134) rfl (hb hby at_127) rfl (XT.ii_ne_t hc127_48) (by decide) (by decide) ?_
          show Steps p.tables e below (T46.setTop (mkF m 134 #[.val (.long q1), .second, .val (.long q2), .second, .val (.int p3), .val (.int (p3 &&& (63 : Int32))), .val (.long ((1 : Int64) <<< ((p3 &&& (63 : Int32)) &&& 0x3f).toInt64)), .second, .val (.int (bI (¬ ((((p3.toUInt32 >>> ((6 : Int32) &&& 31).toUInt32).toInt32) &&& (1 : Int32)) = (0 : Int32))))), .val (.ref b7), .val (.ref b14), .val (.ref b24), .val (.int (own_hash q1 q2)), .val (.int (bI ((own_hash q1 q2) = (own_hash q1 q2)))), .unset, .unset] [])) _
          refine XS.iconst X46.here hx rfl (hb hby at_134) ?_
          show Steps p.tables e below (T46.setTop (mkF m 135 #[.val (.long q1), .second, .val (.long q2), .second, .val (.int p3), .val (.int (p3 &&& (63 : Int32))), .val (.long ((1 : Int64) <<< ((p3 &&& (63 : Int32)) &&& 0x3f).toInt64)), .second, .val (.int (bI (¬ ((((p3.toUInt32 >>> ((6 : Int32) &&& 31).toUInt32).toInt32) &&& (1 : Int32)) = (0 : Int32))))), .val (.ref b7), .val (.ref b14), .val (.ref b24), .val (.int (own_hash q1 q2)), .val (.int (bI ((own_hash q1 q2) = (own_hash q1 q2)))), .unset, .unset] [(.int (0 : Int32))])) _
          exact kk
      · skip
        refine ⟨T42, _, X42, N42, hh42, fun tgt kk => ?_⟩
        have kq52 : ((.int (bI (((q1 = q1) ∧ (q2 = q2)) ∧ ((own_hash q1 q2) = (own_hash q1 q2))))) : Value) = (.int (0 : Int32)) := (congrArg Value.int (bI_f (fun q => hc117_44 q.1)))
        rw [kq52] at kk
        refine pre43 tgt ?_
        refine XS.ifYes X42.here hx rfl (pc0 := 117) (pc' := 134) rfl (hb hby at_117) rfl (bB_eq_t hc117_44) (by decide) (by decide) ?_
        show Steps p.tables e below (T42.setTop (mkF m 134 #[.val (.long q1), .second, .val (.long q2), .second, .val (.int p3), .val (.int (p3 &&& (63 : Int32))), .val (.long ((1 : Int64) <<< ((p3 &&& (63 : Int32)) &&& 0x3f).toInt64)), .second, .val (.int (bI (¬ ((((p3.toUInt32 >>> ((6 : Int32) &&& 31).toUInt32).toInt32) &&& (1 : Int32)) = (0 : Int32))))), .val (.ref b7), .val (.ref b14), .val (.ref b24), .val (.int (own_hash q1 q2)), .val (.int (bI ((own_hash q1 q2) = (own_hash q1 q2)))), .unset, .unset] [])) _
        refine XS.iconst X42.here hx rfl (hb hby at_134) ?_
        show Steps p.tables e below (T42.setTop (mkF m 135 #[.val (.long q1), .second, .val (.long q2), .second, .val (.int p3), .val (.int (p3 &&& (63 : Int32))), .val (.long ((1 : Int64) <<< ((p3 &&& (63 : Int32)) &&& 0x3f).toInt64)), .second, .val (.int (bI (¬ ((((p3.toUInt32 >>> ((6 : Int32) &&& 31).toUInt32).toInt32) &&& (1 : Int32)) = (0 : Int32))))), .val (.ref b7), .val (.ref b14), .val (.ref b24), .val (.int (own_hash q1 q2)), .val (.int (bI ((own_hash q1 q2) = (own_hash q1 q2)))), .unset, .unset] [(.int (0 : Int32))])) _
        exact kk
    have pre53 : ∀ tgt, Steps p.tables e below (T49.setTop (mkF m 139 #[.val (.long q1), .second, .val (.long q2), .second, .val (.int p3), .val (.int (p3 &&& (63 : Int32))), .val (.long ((1 : Int64) <<< ((p3 &&& (63 : Int32)) &&& 0x3f).toInt64)), .second, .val (.int (bI (¬ ((((p3.toUInt32 >>> ((6 : Int32) &&& 31).toUInt32).toInt32) &&& (1 : Int32)) = (0 : Int32))))), .val (.ref b7), .val (.ref b14), .val (.ref b24), .val (.int (own_hash q1 q2)), .val (.int (bI ((own_hash q1 q2) = (own_hash q1 q2)))), .val (.int (bI (((q1 = q1) ∧ (q2 = q2)) ∧ ((own_hash q1 q2) = (own_hash q1 q2))))), .unset] [(.ref b24)])) tgt → Steps p.tables e below (s₁.setTop (entryFrame m #[(.long q1), (.long q2), (.int p3)] maxLocals)) tgt := by
      intro tgt kk
      refine pre49 tgt ?_
      refine XS.istore X49.here hx rfl (hb hby at_135) rfl (l' := #[.val (.long q1), .second, .val (.long q2), .second, .val (.int p3), .val (.int (p3 &&& (63 : Int32))), .val (.long ((1 : Int64) <<< ((p3 &&& (63 : Int32)) &&& 0x3f).toInt64)), .second, .val (.int (bI (¬ ((((p3.toUInt32 >>> ((6 : Int32) &&& 31).toUInt32).toInt32) &&& (1 : Int32)) = (0 : Int32))))), .val (.ref b7), .val (.ref b14), .val (.ref b24), .val (.int (own_hash q1 q2)), .val (.int (bI ((own_hash q1 q2) = (own_hash q1 q2)))), .val (.int (bI (((q1 = q1) ∧ (q2 = q2)) ∧ ((own_hash q1 q2) = (own_hash q1 q2))))), .unset]) rfl ?_
      show Steps p.tables e below (T49.setTop (mkF m 137 #[.val (.long q1), .second, .val (.long q2), .second, .val (.int p3), .val (.int (p3 &&& (63 : Int32))), .val (.long ((1 : Int64) <<< ((p3 &&& (63 : Int32)) &&& 0x3f).toInt64)), .second, .val (.int (bI (¬ ((((p3.toUInt32 >>> ((6 : Int32) &&& 31).toUInt32).toInt32) &&& (1 : Int32)) = (0 : Int32))))), .val (.ref b7), .val (.ref b14), .val (.ref b24), .val (.int (own_hash q1 q2)), .val (.int (bI ((own_hash q1 q2) = (own_hash q1 q2)))), .val (.int (bI (((q1 = q1) ∧ (q2 = q2)) ∧ ((own_hash q1 q2) = (own_hash q1 q2))))), .unset] [])) _
      refine XS.aload X49.here hx rfl (hb hby at_137) rfl rfl ?_
      show Steps p.tables e below (T49.setTop (mkF m 139 #[.val (.long q1), .second, .val (.long q2), .second, .val (.int p3), .val (.int (p3 &&& (63 : Int32))), .val (.long ((1 : Int64) <<< ((p3 &&& (63 : Int32)) &&& 0x3f).toInt64)), .second, .val (.int (bI (¬ ((((p3.toUInt32 >>> ((6 : Int32) &&& 31).toUInt32).toInt32) &&& (1 : Int32)) = (0 : Int32))))), .val (.ref b7), .val (.ref b14), .val (.ref b24), .val (.int (own_hash q1 q2)), .val (.int (bI ((own_hash q1 q2) = (own_hash q1 q2)))), .val (.int (bI (((q1 = q1) ∧ (q2 = q2)) ∧ ((own_hash q1 q2) = (own_hash q1 q2))))), .unset] [(.ref b24)])) _
      exact kk
    obtain ⟨cq54, kq54, q54a, q54b, q54c⟩ := isOf hZ e49 E_b24
    obtain ⟨_, _, ⟨T54, L54, k54, n54⟩, -, X54, ⟨Lc54, hQ54, l54, y54, z54⟩, st54⟩ := X49.virtualBack hx (y := (⟨"com/example/postie/postie/store/MessageId", "hashCode", "()I"⟩ : MethodName)) (z := (⟨"com/example/postie/postie/store/MessageId", "hashCode", "()I"⟩ : MethodName)) hown (mvT hZ (hw _ (List.mem_of_getElem? (i := 13) rfl))) (mvT hZ (hw _ (List.mem_of_getElem? (i := 14) rfl))) (notFace_of_selects (args := #[]) (mvT hZ (hw _ (List.mem_of_getElem? (i := 16) rfl)))) (mvT hZ (hw _ (List.mem_of_getElem? (i := 16) rfl))) (mvT hZ (hw _ (List.mem_of_getElem? (i := 15) rfl))) (by decide) (backOf (W := 0) (rmH l Z a0 hw [] b24 ((q1 ^^^ ((1 : Int64) <<< ((p3 &&& (63 : Int32)) &&& 0x3f).toInt64))) (q2) T30.heap n0 Zs31 F_high_b24 F_low_b24) hZ (hw _ (List.mem_of_getElem? (i := 17) rfl)) (hw _ (List.mem_of_getElem? (i := 2) rfl)) (by decide) (by decide)) q54a q54c (g := (mkF m 139 #[.val (.long q1), .second, .val (.long q2), .second, .val (.int p3), .val (.int (p3 &&& (63 : Int32))), .val (.long ((1 : Int64) <<< ((p3 &&& (63 : Int32)) &&& 0x3f).toInt64)), .second, .val (.int (bI (¬ ((((p3.toUInt32 >>> ((6 : Int32) &&& 31).toUInt32).toInt32) &&& (1 : Int32)) = (0 : Int32))))), .val (.ref b7), .val (.ref b14), .val (.ref b24), .val (.int (own_hash q1 q2)), .val (.int (bI ((own_hash q1 q2) = (own_hash q1 q2)))), .val (.int (bI (((q1 = q1) ∧ (q2 = q2)) ∧ ((own_hash q1 q2) = (own_hash q1 q2))))), .unset] [(.ref b24)])) rfl (by rw [hml]; rfl) (Steps.refl _) (argsL := []) (rest := []) (lenOf pd___I rfl) rfl (by show 2 * 0 + _ ≤ _; exact Nat.le_of_eq rfl) (hb hby at_139) (fun _ _ => ⟨rfl, e49, (by decide : 3 + 0 ≤ _), (by decide : 6 + 0 ≤ _)⟩)
    dsimp only [Pt.U, Pt.locs, Pt.cells, Pt.slots] at X54 l54 y54 z54 st54 hQ54
    subst l54 y54 z54
    obtain ⟨rfl, N54q, hh54⟩ := hQ54
    have N54 := Fr.app N49 N54q
    have pre55 : ∀ tgt, Steps p.tables e below (T54.setTop (mkF m 144 #[.val (.long q1), .second, .val (.long q2), .second, .val (.int p3), .val (.int (p3 &&& (63 : Int32))), .val (.long ((1 : Int64) <<< ((p3 &&& (63 : Int32)) &&& 0x3f).toInt64)), .second, .val (.int (bI (¬ ((((p3.toUInt32 >>> ((6 : Int32) &&& 31).toUInt32).toInt32) &&& (1 : Int32)) = (0 : Int32))))), .val (.ref b7), .val (.ref b14), .val (.ref b24), .val (.int (own_hash q1 q2)), .val (.int (bI ((own_hash q1 q2) = (own_hash q1 q2)))), .val (.int (bI (((q1 = q1) ∧ (q2 = q2)) ∧ ((own_hash q1 q2) = (own_hash q1 q2))))), .unset] [(.int (own_hash q1 q2)), (.int (own_hash (q1 ^^^ ((1 : Int64) <<< ((p3 &&& (63 : Int32)) &&& 0x3f).toInt64)) q2))])) tgt → Steps p.tables e below (s₁.setTop (entryFrame m #[(.long q1), (.long q2), (.int p3)] maxLocals)) tgt := by
      intro tgt kk
      refine pre53 tgt ?_
      refine st54.trans ?_
      show Steps p.tables e below (T54.setTop (mkF m 142 #[.val (.long q1), .second, .val (.long q2), .second, .val (.int p3), .val (.int (p3 &&& (63 : Int32))), .val (.long ((1 : Int64) <<< ((p3 &&& (63 : Int32)) &&& 0x3f).toInt64)), .second, .val (.int (bI (¬ ((((p3.toUInt32 >>> ((6 : Int32) &&& 31).toUInt32).toInt32) &&& (1 : Int32)) = (0 : Int32))))), .val (.ref b7), .val (.ref b14), .val (.ref b24), .val (.int (own_hash q1 q2)), .val (.int (bI ((own_hash q1 q2) = (own_hash q1 q2)))), .val (.int (bI (((q1 = q1) ∧ (q2 = q2)) ∧ ((own_hash q1 q2) = (own_hash q1 q2))))), .unset] [(.int (own_hash (q1 ^^^ ((1 : Int64) <<< ((p3 &&& (63 : Int32)) &&& 0x3f).toInt64)) q2))])) _
      refine XS.iload X54.here hx rfl (hb hby at_142) rfl ?_
      show Steps p.tables e below (T54.setTop (mkF m 144 #[.val (.long q1), .second, .val (.long q2), .second, .val (.int p3), .val (.int (p3 &&& (63 : Int32))), .val (.long ((1 : Int64) <<< ((p3 &&& (63 : Int32)) &&& 0x3f).toInt64)), .second, .val (.int (bI (¬ ((((p3.toUInt32 >>> ((6 : Int32) &&& 31).toUInt32).toInt32) &&& (1 : Int32)) = (0 : Int32))))), .val (.ref b7), .val (.ref b14), .val (.ref b24), .val (.int (own_hash q1 q2)), .val (.int (bI ((own_hash q1 q2) = (own_hash q1 q2)))), .val (.int (bI (((q1 = q1) ∧ (q2 = q2)) ∧ ((own_hash q1 q2) = (own_hash q1 q2))))), .unset] [(.int (own_hash q1 q2)), (.int (own_hash (q1 ^^^ ((1 : Int64) <<< ((p3 &&& (63 : Int32)) &&& 0x3f).toInt64)) q2))])) _
      exact kk
    obtain ⟨T57, lo57, X57, N57, e57, pre57⟩ : ∃ (T' : State) (lo : List Loc), Stand p l e room_1 s m #[(.long q1), (.long q2), (.int p3)] below meth c T' lo 3 6 ∧ Fr n0 lo ∧ T'.heap = T30.heap ∧ ∀ tgt, Steps p.tables e below (T'.setTop (mkF m 152 #[.val (.long q1), .second, .val (.long q2), .second, .val (.int p3), .val (.int (p3 &&& (63 : Int32))), .val (.long ((1 : Int64) <<< ((p3 &&& (63 : Int32)) &&& 0x3f).toInt64)), .second, .val (.int (bI (¬ ((((p3.toUInt32 >>> ((6 : Int32) &&& 31).toUInt32).toInt32) &&& (1 : Int32)) = (0 : Int32))))), .val (.ref b7), .val (.ref b14), .val (.ref b24), .val (.int (own_hash q1 q2)), .val (.int (bI ((own_hash q1 q2) = (own_hash q1 q2)))), .val (.int (bI (((q1 = q1) ∧ (q2 = q2)) ∧ ((own_hash q1 q2) = (own_hash q1 q2))))), .unset] [(.int (bI (¬ ((own_hash (q1 ^^^ ((1 : Int64) <<< ((p3 &&& (63 : Int32)) &&& 0x3f).toInt64)) q2) = (own_hash q1 q2)))))])) tgt → Steps p.tables e below (s₁.setTop (entryFrame m #[(.long q1), (.long q2), (.int p3)] maxLocals)) tgt := by
      by_cases hc144_56 : (own_hash (q1 ^^^ ((1 : Int64) <<< ((p3 &&& (63 : Int32)) &&& 0x3f).toInt64)) q2) = (own_hash q1 q2)
      · skip
        refine ⟨T54, _, X54, N54, hh54, fun tgt kk => ?_⟩
        have kq58 : ((.int (bI (¬ ((own_hash (q1 ^^^ ((1 : Int64) <<< ((p3 &&& (63 : Int32)) &&& 0x3f).toInt64)) q2) = (own_hash q1 q2))))) : Value) = (.int (0 : Int32)) := (congrArg Value.int (bI_f (not_not_intro hc144_56)))
        rw [kq58] at kk
        refine pre55 tgt ?_
        refine XS.icmpYes X54.here hx rfl (pc0 := 144) (pc' := 151) rfl (hb hby at_144) rfl (XT.ii_eq_t hc144_56) (by decide) (by decide) ?_
        show Steps p.tables e below (T54.setTop (mkF m 151 #[.val (.long q1), .second, .val (.long q2), .second, .val (.int p3), .val (.int (p3 &&& (63 : Int32))), .val (.long ((1 : Int64) <<< ((p3 &&& (63 : Int32)) &&& 0x3f).toInt64)), .second, .val (.int (bI (¬ ((((p3.toUInt32 >>> ((6 : Int32) &&& 31).toUInt32).toInt32) &&& (1 : Int32)) = (0 : Int32))))), .val (.ref b7), .val (.ref b14), .val (.ref b24), .val (.int (own_hash q1 q2)), .val (.int (bI ((own_hash q1 q2) = (own_hash q1 q2)))), .val (.int (bI (((q1 = q1) ∧ (q2 = q2)) ∧ ((own_hash q1 q2) = (own_hash q1 q2))))), .unset] [])) _
        refine XS.iconst X54.here hx rfl (hb hby at_151) ?_
        show Steps p.tables e below (T54.setTop (mkF m 152 #[.val (.long q1), .second, .val (.long q2), .second, .val (.int p3), .val (.int (p3 &&& (63 : Int32))), .val (.long ((1 : Int64) <<< ((p3 &&& (63 : Int32)) &&& 0x3f).toInt64)), .second, .val (.int (bI (¬ ((((p3.toUInt32 >>> ((6 : Int32) &&& 31).toUInt32).toInt32) &&& (1 : Int32)) = (0 : Int32))))), .val (.ref b7), .val (.ref b14), .val (.ref b24), .val (.int (own_hash q1 q2)), .val (.int (bI ((own_hash q1 q2) = (own_hash q1 q2)))), .val (.int (bI (((q1 = q1) ∧ (q2 = q2)) ∧ ((own_hash q1 q2) = (own_hash q1 q2))))), .unset] [(.int (0 : Int32))])) _
        exact kk
      · skip
        refine ⟨T54, _, X54, N54, hh54, fun tgt kk => ?_⟩
        have kq59 : ((.int (bI (¬ ((own_hash (q1 ^^^ ((1 : Int64) <<< ((p3 &&& (63 : Int32)) &&& 0x3f).toInt64)) q2) = (own_hash q1 q2))))) : Value) = (.int (1 : Int32)) := (congrArg Value.int (bI_t hc144_56))
        rw [kq59] at kk
        refine pre55 tgt ?_
        refine XS.icmpNo X54.here hx rfl (hb hby at_144) rfl (XT.ii_eq_f hc144_56) ?_
        show Steps p.tables e below (T54.setTop (mkF m 147 #[.val (.long q1), .second, .val (.long q2), .second, .val (.int p3), .val (.int (p3 &&& (63 : Int32))), .val (.long ((1 : Int64) <<< ((p3 &&& (63 : Int32)) &&& 0x3f).toInt64)), .second, .val (.int (bI (¬ ((((p3.toUInt32 >>> ((6 : Int32) &&& 31).toUInt32).toInt32) &&& (1 : Int32)) = (0 : Int32))))), .val (.ref b7), .val (.ref b14), .val (.ref b24), .val (.int (own_hash q1 q2)), .val (.int (bI ((own_hash q1 q2) = (own_hash q1 q2)))), .val (.int (bI (((q1 = q1) ∧ (q2 = q2)) ∧ ((own_hash q1 q2) = (own_hash q1 q2))))), .unset] [])) _
        refine XS.iconst X54.here hx rfl (hb hby at_147) ?_
        show Steps p.tables e below (T54.setTop (mkF m 148 #[.val (.long q1), .second, .val (.long q2), .second, .val (.int p3), .val (.int (p3 &&& (63 : Int32))), .val (.long ((1 : Int64) <<< ((p3 &&& (63 : Int32)) &&& 0x3f).toInt64)), .second, .val (.int (bI (¬ ((((p3.toUInt32 >>> ((6 : Int32) &&& 31).toUInt32).toInt32) &&& (1 : Int32)) = (0 : Int32))))), .val (.ref b7), .val (.ref b14), .val (.ref b24), .val (.int (own_hash q1 q2)), .val (.int (bI ((own_hash q1 q2) = (own_hash q1 q2)))), .val (.int (bI (((q1 = q1) ∧ (q2 = q2)) ∧ ((own_hash q1 q2) = (own_hash q1 q2))))), .unset] [(.int (1 : Int32))])) _
        refine XS.goto X54.here hx rfl (pc0 := 148) (pc' := 152) rfl (hb hby at_148) (by decide) (by decide) ?_
        show Steps p.tables e below (T54.setTop (mkF m 152 #[.val (.long q1), .second, .val (.long q2), .second, .val (.int p3), .val (.int (p3 &&& (63 : Int32))), .val (.long ((1 : Int64) <<< ((p3 &&& (63 : Int32)) &&& 0x3f).toInt64)), .second, .val (.int (bI (¬ ((((p3.toUInt32 >>> ((6 : Int32) &&& 31).toUInt32).toInt32) &&& (1 : Int32)) = (0 : Int32))))), .val (.ref b7), .val (.ref b14), .val (.ref b24), .val (.int (own_hash q1 q2)), .val (.int (bI ((own_hash q1 q2) = (own_hash q1 q2)))), .val (.int (bI (((q1 = q1) ∧ (q2 = q2)) ∧ ((own_hash q1 q2) = (own_hash q1 q2))))), .unset] [(.int (1 : Int32))])) _
        exact kk
    have pre60 : ∀ tgt, Steps p.tables e below (T57.setTop (mkF m 156 #[.val (.long q1), .second, .val (.long q2), .second, .val (.int p3), .val (.int (p3 &&& (63 : Int32))), .val (.long ((1 : Int64) <<< ((p3 &&& (63 : Int32)) &&& 0x3f).toInt64)), .second, .val (.int (bI (¬ ((((p3.toUInt32 >>> ((6 : Int32) &&& 31).toUInt32).toInt32) &&& (1 : Int32)) = (0 : Int32))))), .val (.ref b7), .val (.ref b14), .val (.ref b24), .val (.int (own_hash q1 q2)), .val (.int (bI ((own_hash q1 q2) = (own_hash q1 q2)))), .val (.int (bI (((q1 = q1) ∧ (q2 = q2)) ∧ ((own_hash q1 q2) = (own_hash q1 q2))))), .val (.int (bI (¬ ((own_hash (q1 ^^^ ((1 : Int64) <<< ((p3 &&& (63 : Int32)) &&& 0x3f).toInt64)) q2) = (own_hash q1 q2)))))] [(.int (bI ((own_hash q1 q2) = (own_hash q1 q2))))])) tgt → Steps p.tables e below (s₁.setTop (entryFrame m #[(.long q1), (.long q2), (.int p3)] maxLocals)) tgt := by
      intro tgt kk
      refine pre57 tgt ?_
      refine XS.istore X57.here hx rfl (hb hby at_152) rfl (l' := #[.val (.long q1), .second, .val (.long q2), .second, .val (.int p3), .val (.int (p3 &&& (63 : Int32))), .val (.long ((1 : Int64) <<< ((p3 &&& (63 : Int32)) &&& 0x3f).toInt64)), .second, .val (.int (bI (¬ ((((p3.toUInt32 >>> ((6 : Int32) &&& 31).toUInt32).toInt32) &&& (1 : Int32)) = (0 : Int32))))), .val (.ref b7), .val (.ref b14), .val (.ref b24), .val (.int (own_hash q1 q2)), .val (.int (bI ((own_hash q1 q2) = (own_hash q1 q2)))), .val (.int (bI (((q1 = q1) ∧ (q2 = q2)) ∧ ((own_hash q1 q2) = (own_hash q1 q2))))), .val (.int (bI (¬ ((own_hash (q1 ^^^ ((1 : Int64) <<< ((p3 &&& (63 : Int32)) &&& 0x3f).toInt64)) q2) = (own_hash q1 q2)))))]) rfl ?_
      show Steps p.tables e below (T57.setTop (mkF m 154 #[.val (.long q1), .second, .val (.long q2), .second, .val (.int p3), .val (.int (p3 &&& (63 : Int32))), .val (.long ((1 : Int64) <<< ((p3 &&& (63 : Int32)) &&& 0x3f).toInt64)), .second, .val (.int (bI (¬ ((((p3.toUInt32 >>> ((6 : Int32) &&& 31).toUInt32).toInt32) &&& (1 : Int32)) = (0 : Int32))))), .val (.ref b7), .val (.ref b14), .val (.ref b24), .val (.int (own_hash q1 q2)), .val (.int (bI ((own_hash q1 q2) = (own_hash q1 q2)))), .val (.int (bI (((q1 = q1) ∧ (q2 = q2)) ∧ ((own_hash q1 q2) = (own_hash q1 q2))))), .val (.int (bI (¬ ((own_hash (q1 ^^^ ((1 : Int64) <<< ((p3 &&& (63 : Int32)) &&& 0x3f).toInt64)) q2) = (own_hash q1 q2)))))] [])) _
      refine XS.iload X57.here hx rfl (hb hby at_154) rfl ?_
      show Steps p.tables e below (T57.setTop (mkF m 156 #[.val (.long q1), .second, .val (.long q2), .second, .val (.int p3), .val (.int (p3 &&& (63 : Int32))), .val (.long ((1 : Int64) <<< ((p3 &&& (63 : Int32)) &&& 0x3f).toInt64)), .second, .val (.int (bI (¬ ((((p3.toUInt32 >>> ((6 : Int32) &&& 31).toUInt32).toInt32) &&& (1 : Int32)) = (0 : Int32))))), .val (.ref b7), .val (.ref b14), .val (.ref b24), .val (.int (own_hash q1 q2)), .val (.int (bI ((own_hash q1 q2) = (own_hash q1 q2)))), .val (.int (bI (((q1 = q1) ∧ (q2 = q2)) ∧ ((own_hash q1 q2) = (own_hash q1 q2))))), .val (.int (bI (¬ ((own_hash (q1 ^^^ ((1 : Int64) <<< ((p3 &&& (63 : Int32)) &&& 0x3f).toInt64)) q2) = (own_hash q1 q2)))))] [(.int (bI ((own_hash q1 q2) = (own_hash q1 q2))))])) _
      exact kk
    obtain ⟨T66, lo66, X66, N66, e66, pre66⟩ : ∃ (T' : State) (lo : List Loc), Stand p l e room_1 s m #[(.long q1), (.long q2), (.int p3)] below meth c T' lo 3 6 ∧ Fr n0 lo ∧ T'.heap = T30.heap ∧ ∀ tgt, Steps p.tables e below (T'.setTop (mkF m 174 #[.val (.long q1), .second, .val (.long q2), .second, .val (.int p3), .val (.int (p3 &&& (63 : Int32))), .val (.long ((1 : Int64) <<< ((p3 &&& (63 : Int32)) &&& 0x3f).toInt64)), .second, .val (.int (bI (¬ ((((p3.toUInt32 >>> ((6 : Int32) &&& 31).toUInt32).toInt32) &&& (1 : Int32)) = (0 : Int32))))), .val (.ref b7), .val (.ref b14), .val (.ref b24), .val (.int (own_hash q1 q2)), .val (.int (bI ((own_hash q1 q2) = (own_hash q1 q2)))), .val (.int (bI (((q1 = q1) ∧ (q2 = q2)) ∧ ((own_hash q1 q2) = (own_hash q1 q2))))), .val (.int (bI (¬ ((own_hash (q1 ^^^ ((1 : Int64) <<< ((p3 &&& (63 : Int32)) &&& 0x3f).toInt64)) q2) = (own_hash q1 q2)))))] [(.int (bI (((own_hash q1 q2) = (own_hash q1 q2)) ∧ ((((q1 = q1) ∧ (q2 = q2)) ∧ ((own_hash q1 q2) = (own_hash q1 q2))) ∧ (¬ ((own_hash (q1 ^^^ ((1 : Int64) <<< ((p3 &&& (63 : Int32)) &&& 0x3f).toInt64)) q2) = (own_hash q1 q2)))))))])) tgt → Steps p.tables e below (s₁.setTop (entryFrame m #[(.long q1), (.long q2), (.int p3)] maxLocals)) tgt := by
      by_cases hc156_61 : (own_hash q1 q2) = (own_hash q1 q2)
      · skip
        have pre62 : ∀ tgt, Steps p.tables e below (T57.setTop (mkF m 161 #[.val (.long q1), .second, .val (.long q2), .second, .val (.int p3), .val (.int (p3 &&& (63 : Int32))), .val (.long ((1 : Int64) <<< ((p3 &&& (63 : Int32)) &&& 0x3f).toInt64)), .second, .val (.int (bI (¬ ((((p3.toUInt32 >>> ((6 : Int32) &&& 31).toUInt32).toInt32) &&& (1 : Int32)) = (0 : Int32))))), .val (.ref b7), .val (.ref b14), .val (.ref b24), .val (.int (own_hash q1 q2)), .val (.int (bI ((own_hash q1 q2) = (own_hash q1 q2)))), .val (.int (bI (((q1 = q1) ∧ (q2 = q2)) ∧ ((own_hash q1 q2) = (own_hash q1 q2))))), .val (.int (bI (¬ ((own_hash (q1 ^^^ ((1 : Int64) <<< ((p3 &&& (63 : Int32)) &&& 0x3f).toInt64)) q2) = (own_hash q1 q2)))))] [(.int (bI (((q1 = q1) ∧ (q2 = q2)) ∧ ((own_hash q1 q2) = (own_hash q1 q2)))))])) tgt → Steps p.tables e below (s₁.setTop (entryFrame m #[(.long q1), (.long q2), (.int p3)] maxLocals)) tgt := by
          intro tgt kk
          refine pre60 tgt ?_
          refine XS.ifNo X57.here hx rfl (hb hby at_156) rfl (bB_eq_f hc156_61) ?_
          show Steps p.tables e below (T57.setTop (mkF m 159 #[.val (.long q1), .second, .val (.long q2), .second, .val (.int p3), .val (.int (p3 &&& (63 : Int32))), .val (.long ((1 : Int64) <<< ((p3 &&& (63 : Int32)) &&& 0x3f).toInt64)), .second, .val (.int (bI (¬ ((((p3.toUInt32 >>> ((6 : Int32) &&& 31).toUInt32).toInt32) &&& (1 : Int32)) = (0 : Int32))))), .val (.ref b7), .val (.ref b14), .val (.ref b24), .val (.int (own_hash q1 q2)), .val (.int (bI ((own_hash q1 q2) = (own_hash q1 q2)))), .val (.int (bI (((q1 = q1) ∧ (q2 = q2)) ∧ ((own_hash q1 q2) = (own_hash q1 q2))))), .val (.int (bI (¬ ((own_hash (q1 ^^^ ((1 : Int64) <<< ((p3 &&& (63 : Int32)) &&& 0x3f).toInt64)) q2) = (own_hash q1 q2)))))] [])) _
          refine XS.iload X57.here hx rfl (hb hby at_159) rfl ?_
          show Steps p.tables e below (T57.setTop (mkF m 161 #[.val (.long q1), .second, .val (.long q2), .second, .val (.int p3), .val (.int (p3 &&& (63 : Int32))), .val (.long ((1 : Int64) <<< ((p3 &&& (63 : Int32)) &&& 0x3f).toInt64)), .second, .val (.int (bI (¬ ((((p3.toUInt32 >>> ((6 : Int32) &&& 31).toUInt32).toInt32) &&& (1 : Int32)) = (0 : Int32))))), .val (.ref b7), .val (.ref b14), .val (.ref b24), .val (.int (own_hash q1 q2)), .val (.int (bI ((own_hash q1 q2) = (own_hash q1 q2)))), .val (.int (bI (((q1 = q1) ∧ (q2 = q2)) ∧ ((own_hash q1 q2) = (own_hash q1 q2))))), .val (.int (bI (¬ ((own_hash (q1 ^^^ ((1 : Int64) <<< ((p3 &&& (63 : Int32)) &&& 0x3f).toInt64)) q2) = (own_hash q1 q2)))))] [(.int (bI (((q1 = q1) ∧ (q2 = q2)) ∧ ((own_hash q1 q2) = (own_hash q1 q2)))))])) _
          exact kk
        by_cases hc161_63 : ((q1 = q1) ∧ (q2 = q2)) ∧ ((own_hash q1 q2) = (own_hash q1 q2))
        · skip
          have pre64 : ∀ tgt, Steps p.tables e below (T57.setTop (mkF m 166 #[.val (.long q1), .second, .val (.long q2), .second, .val (.int p3), .val (.int (p3 &&& (63 : Int32))), .val (.long ((1 : Int64) <<< ((p3 &&& (63 : Int32)) &&& 0x3f).toInt64)), .second, .val (.int (bI (¬ ((((p3.toUInt32 >>> ((6 : Int32) &&& 31).toUInt32).toInt32) &&& (1 : Int32)) = (0 : Int32))))), .val (.ref b7), .val (.ref b14), .val (.ref b24), .val (.int (own_hash q1 q2)), .val (.int (bI ((own_hash q1 q2) = (own_hash q1 q2)))), .val (.int (bI (((q1 = q1) ∧ (q2 = q2)) ∧ ((own_hash q1 q2) = (own_hash q1 q2))))), .val (.int (bI (¬ ((own_hash (q1 ^^^ ((1 : Int64) <<< ((p3 &&& (63 : Int32)) &&& 0x3f).toInt64)) q2) = (own_hash q1 q2)))))] [(.int (bI (¬ ((own_hash (q1 ^^^ ((1 : Int64) <<< ((p3 &&& (63 : Int32)) &&& 0x3f).toInt64)) q2) = (own_hash q1 q2)))))])) tgt → Steps p.tables e below (s₁.setTop (entryFrame m #[(.long q1), (.long q2), (.int p3)] maxLocals)) tgt := by
            intro tgt kk
            refine pre62 tgt ?_
            refine XS.ifNo X57.here hx rfl (hb hby at_161) rfl (bB_eq_f hc161_63) ?_
            show Steps p.tables e below (T57.setTop (mkF m 164 #[.val (.long q1), .second, .val (.long q2), .second, .val (.int p3), .val (.int (p3 &&& (63 : Int32))), .val (.long ((1 : Int64) <<< ((p3 &&& (63 : Int32)) &&& 0x3f).toInt64)), .second, .val (.int (bI (¬ ((((p3.toUInt32 >>> ((6 : Int32) &&& 31).toUInt32).toInt32) &&& (1 : Int32)) = (0 : Int32))))), .val (.ref b7), .val (.ref b14), .val (.ref b24), .val (.int (own_hash q1 q2)), .val (.int (bI ((own_hash q1 q2) = (own_hash q1 q2)))), .val (.int (bI (((q1 = q1) ∧ (q2 = q2)) ∧ ((own_hash q1 q2) = (own_hash q1 q2))))), .val (.int (bI (¬ ((own_hash (q1 ^^^ ((1 : Int64) <<< ((p3 &&& (63 : Int32)) &&& 0x3f).toInt64)) q2) = (own_hash q1 q2)))))] [])) _
            refine XS.iload X57.here hx rfl (hb hby at_164) rfl ?_
            show Steps p.tables e below (T57.setTop (mkF m 166 #[.val (.long q1), .second, .val (.long q2), .second, .val (.int p3), .val (.int (p3 &&& (63 : Int32))), .val (.long ((1 : Int64) <<< ((p3 &&& (63 : Int32)) &&& 0x3f).toInt64)), .second, .val (.int (bI (¬ ((((p3.toUInt32 >>> ((6 : Int32) &&& 31).toUInt32).toInt32) &&& (1 : Int32)) = (0 : Int32))))), .val (.ref b7), .val (.ref b14), .val (.ref b24), .val (.int (own_hash q1 q2)), .val (.int (bI ((own_hash q1 q2) = (own_hash q1 q2)))), .val (.int (bI (((q1 = q1) ∧ (q2 = q2)) ∧ ((own_hash q1 q2) = (own_hash q1 q2))))), .val (.int (bI (¬ ((own_hash (q1 ^^^ ((1 : Int64) <<< ((p3 &&& (63 : Int32)) &&& 0x3f).toInt64)) q2) = (own_hash q1 q2)))))] [(.int (bI (¬ ((own_hash (q1 ^^^ ((1 : Int64) <<< ((p3 &&& (63 : Int32)) &&& 0x3f).toInt64)) q2) = (own_hash q1 q2)))))])) _
            exact kk
          by_cases hc166_65 : ¬ ((own_hash (q1 ^^^ ((1 : Int64) <<< ((p3 &&& (63 : Int32)) &&& 0x3f).toInt64)) q2) = (own_hash q1 q2))
          · skip
            refine ⟨T57, _, X57, N57, e57, fun tgt kk => ?_⟩
            have kq67 : ((.int (bI (((own_hash q1 q2) = (own_hash q1 q2)) ∧ ((((q1 = q1) ∧ (q2 = q2)) ∧ ((own_hash q1 q2) = (own_hash q1 q2))) ∧ (¬ ((own_hash (q1 ^^^ ((1 : Int64) <<< ((p3 &&& (63 : Int32)) &&& 0x3f).toInt64)) q2) = (own_hash q1 q2))))))) : Value) = (.int (1 : Int32)) := ((congrArg Value.int (bI_iff (and_iff_right hc156_61))).trans ((congrArg Value.int (bI_iff (and_iff_right hc161_63))).trans (congrArg Value.int (bI_t hc166_65))))
            rw [kq67] at kk
            refine pre64 tgt ?_
            refine XS.ifNo X57.here hx rfl (hb hby at_166) rfl (bB_eq_f hc166_65) ?_
            show Steps p.tables e below (T57.setTop (mkF m 169 #[.val (.long q1), .second, .val (.long q2), .second, .val (.int p3), .val (.int (p3 &&& (63 : Int32))), .val (.long ((1 : Int64) <<< ((p3 &&& (63 : Int32)) &&& 0x3f).toInt64)), .second, .val (.int (bI (¬ ((((p3.toUInt32 >>> ((6 : Int32) &&& 31).toUInt32).toInt32) &&& (1 : Int32)) = (0 : Int32))))), .val (.ref b7), .val (.ref b14), .val (.ref b24), .val (.int (own_hash q1 q2)), .val (.int (bI ((own_hash q1 q2) = (own_hash q1 q2)))), .val (.int (bI (((q1 = q1) ∧ (q2 = q2)) ∧ ((own_hash q1 q2) = (own_hash q1 q2))))), .val (.int (bI (¬ ((own_hash (q1 ^^^ ((1 : Int64) <<< ((p3 &&& (63 : Int32)) &&& 0x3f).toInt64)) q2) = (own_hash q1 q2)))))] [])) _
            refine XS.iconst X57.here hx rfl (hb hby at_169) ?_
            show Steps p.tables e below (T57.setTop (mkF m 170 #[.val (.long q1), .second, .val (.long q2), .second, .val (.int p3), .val (.int (p3 &&& (63 : Int32))), .val (.long ((1 : Int64) <<< ((p3 &&& (63 : Int32)) &&& 0x3f).toInt64)), .second, .val (.int (bI (¬ ((((p3.toUInt32 >>> ((6 : Int32) &&& 31).toUInt32).toInt32) &&& (1 : Int32)) = (0 : Int32))))), .val (.ref b7), .val (.ref b14), .val (.ref b24), .val (.int (own_hash q1 q2)), .val (.int (bI ((own_hash q1 q2) = (own_hash q1 q2)))), .val (.int (bI (((q1 = q1) ∧ (q2 = q2)) ∧ ((own_hash q1 q2) = (own_hash q1 q2))))), .val (.int (bI (¬ ((own_hash (q1 ^^^ ((1 : Int64) <<< ((p3 &&& (63 : Int32)) &&& 0x3f).toInt64)) q2) = (own_hash q1 q2)))))] [(.int (1 : Int32))])) _
            refine XS.goto X57.here hx rfl (pc0 := 170) (pc' := 174) rfl (hb hby at_170) (by decide) (by decide) ?_
            show Steps p.tables e below (T57.setTop (mkF m 174 #[.val (.long q1), .second, .val (.long q2), .second, .val (.int p3), .val (.int (p3 &&& (63 : Int32))), .val (.long ((1 : Int64) <<< ((p3 &&& (63 : Int32)) &&& 0x3f).toInt64)), .second, .val (.int (bI (¬ ((((p3.toUInt32 >>> ((6 : Int32) &&& 31).toUInt32).toInt32) &&& (1 : Int32)) = (0 : Int32))))), .val (.ref b7), .val (.ref b14), .val (.ref b24), .val (.int (own_hash q1 q2)), .val (.int (bI ((own_hash q1 q2) = (own_hash q1 q2)))), .val (.int (bI (((q1 = q1) ∧ (q2 = q2)) ∧ ((own_hash q1 q2) = (own_hash q1 q2))))), .val (.int (bI (¬ ((own_hash (q1 ^^^ ((1 : Int64) <<< ((p3 &&& (63 : Int32)) &&& 0x3f).toInt64)) q2) = (own_hash q1 q2)))))] [(.int (1 : Int32))])) _
            exact kk
          · skip
            refine ⟨T57, _, X57, N57, e57, fun tgt kk => ?_⟩
            have kq68 : ((.int (bI (((own_hash q1 q2) = (own_hash q1 q2)) ∧ ((((q1 = q1) ∧ (q2 = q2)) ∧ ((own_hash q1 q2) = (own_hash q1 q2))) ∧ (¬ ((own_hash (q1 ^^^ ((1 : Int64) <<< ((p3 &&& (63 : Int32)) &&& 0x3f).toInt64)) q2) = (own_hash q1 q2))))))) : Value) = (.int (0 : Int32)) := ((congrArg Value.int (bI_iff (and_iff_right hc156_61))).trans ((congrArg Value.int (bI_iff (and_iff_right hc161_63))).trans (congrArg Value.int (bI_f hc166_65))))
            rw [kq68] at kk
            refine pre64 tgt ?_
            refine XS.ifYes X57.here hx rfl (pc0 := 166) (pc' := 173) rfl (hb hby at_166) rfl (bB_eq_t hc166_65) (by decide) (by decide) ?_
            show Steps p.tables e below (T57.setTop (mkF m 173 #[.val (.long q1), .second, .val (.long q2), .second, .val (.int p3), .val (.int (p3 &&& (63 : Int32))), .val (.long ((1 : Int64) <<< ((p3 &&& (63 : Int32)) &&& 0x3f).toInt64)), .second, .val (.int (bI (¬ ((((p3.toUInt32 >>> ((6 : Int32) &&& 31).toUInt32).toInt32) &&& (1 : Int32)) = (0 : Int32))))), .val (.ref b7), .val (.ref b14), .val (.ref b24), .val (.int (own_hash q1 q2)), .val (.int (bI ((own_hash q1 q2) = (own_hash q1 q2)))), .val (.int (bI (((q1 = q1) ∧ (q2 = q2)) ∧ ((own_hash q1 q2) = (own_hash q1 q2))))), .val (.int (bI (¬ ((own_hash (q1 ^^^ ((1 : Int64) <<< ((p3 &&& (63 : Int32)) &&& 0x3f).toInt64)) q2) = (own_hash q1 q2)))))] [])) _
            refine XS.iconst X57.here hx rfl (hb hby at_173) ?_
            show Steps p.tables e below (T57.setTop (mkF m 174 #[.val (.long q1), .second, .val (.long q2), .second, .val (.int p3), .val (.int (p3 &&& (63 : Int32))), .val (.long ((1 : Int64) <<< ((p3 &&& (63 : Int32)) &&& 0x3f).toInt64)), .second, .val (.int (bI (¬ ((((p3.toUInt32 >>> ((6 : Int32) &&& 31).toUInt32).toInt32) &&& (1 : Int32)) = (0 : Int32))))), .val (.ref b7), .val (.ref b14), .val (.ref b24), .val (.int (own_hash q1 q2)), .val (.int (bI ((own_hash q1 q2) = (own_hash q1 q2)))), .val (.int (bI (((q1 = q1) ∧ (q2 = q2)) ∧ ((own_hash q1 q2) = (own_hash q1 q2))))), .val (.int (bI (¬ ((own_hash (q1 ^^^ ((1 : Int64) <<< ((p3 &&& (63 : Int32)) &&& 0x3f).toInt64)) q2) = (own_hash q1 q2)))))] [(.int (0 : Int32))])) _
            exact kk
        · skip
          refine ⟨T57, _, X57, N57, e57, fun tgt kk => ?_⟩
          have kq69 : ((.int (bI (((own_hash q1 q2) = (own_hash q1 q2)) ∧ ((((q1 = q1) ∧ (q2 = q2)) ∧ ((own_hash q1 q2) = (own_hash q1 q2))) ∧ (¬ ((own_hash (q1 ^^^ ((1 : Int64) <<< ((p3 &&& (63 : Int32)) &&& 0x3f).toInt64)) q2) = (own_hash q1 q2))))))) : Value) = (.int (0 : Int32)) := ((congrArg Value.int (bI_iff (and_iff_right hc156_61))).trans (congrArg Value.int (bI_f (fun q => hc161_63 q.1))))
          rw [kq69] at kk
          refine pre62 tgt ?_
          refine XS.ifYes X57.here hx rfl (pc0 := 161) (pc' := 173) rfl (hb hby at_161) rfl (bB_eq_t hc161_63) (by decide) (by decide) ?_
          show Steps p.tables e below (T57.setTop (mkF m 173 #[.val (.long q1), .second, .val (.long q2), .second, .val (.int p3), .val (.int (p3 &&& (63 : Int32))), .val (.long ((1 : Int64) <<< ((p3 &&& (63 : Int32)) &&& 0x3f).toInt64)), .second, .val (.int (bI (¬ ((((p3.toUInt32 >>> ((6 : Int32) &&& 31).toUInt32).toInt32) &&& (1 : Int32)) = (0 : Int32))))), .val (.ref b7), .val (.ref b14), .val (.ref b24), .val (.int (own_hash q1 q2)), .val (.int (bI ((own_hash q1 q2) = (own_hash q1 q2)))), .val (.int (bI (((q1 = q1) ∧ (q2 = q2)) ∧ ((own_hash q1 q2) = (own_hash q1 q2))))), .val (.int (bI (¬ ((own_hash (q1 ^^^ ((1 : Int64) <<< ((p3 &&& (63 : Int32)) &&& 0x3f).toInt64)) q2) = (own_hash q1 q2)))))] [])) _
          refine XS.iconst X57.here hx rfl (hb hby at_173) ?_
          show Steps p.tables e below (T57.setTop (mkF m 174 #[.val (.long q1), .second, .val (.long q2), .second, .val (.int p3), .val (.int (p3 &&& (63 : Int32))), .val (.long ((1 : Int64) <<< ((p3 &&& (63 : Int32)) &&& 0x3f).toInt64)), .second, .val (.int (bI (¬ ((((p3.toUInt32 >>> ((6 : Int32) &&& 31).toUInt32).toInt32) &&& (1 : Int32)) = (0 : Int32))))), .val (.ref b7), .val (.ref b14), .val (.ref b24), .val (.int (own_hash q1 q2)), .val (.int (bI ((own_hash q1 q2) = (own_hash q1 q2)))), .val (.int (bI (((q1 = q1) ∧ (q2 = q2)) ∧ ((own_hash q1 q2) = (own_hash q1 q2))))), .val (.int (bI (¬ ((own_hash (q1 ^^^ ((1 : Int64) <<< ((p3 &&& (63 : Int32)) &&& 0x3f).toInt64)) q2) = (own_hash q1 q2)))))] [(.int (0 : Int32))])) _
          exact kk
      · skip
        refine ⟨T57, _, X57, N57, e57, fun tgt kk => ?_⟩
        have kq70 : ((.int (bI (((own_hash q1 q2) = (own_hash q1 q2)) ∧ ((((q1 = q1) ∧ (q2 = q2)) ∧ ((own_hash q1 q2) = (own_hash q1 q2))) ∧ (¬ ((own_hash (q1 ^^^ ((1 : Int64) <<< ((p3 &&& (63 : Int32)) &&& 0x3f).toInt64)) q2) = (own_hash q1 q2))))))) : Value) = (.int (0 : Int32)) := (congrArg Value.int (bI_f (fun q => hc156_61 q.1)))
        rw [kq70] at kk
        refine pre60 tgt ?_
        refine XS.ifYes X57.here hx rfl (pc0 := 156) (pc' := 173) rfl (hb hby at_156) rfl (bB_eq_t hc156_61) (by decide) (by decide) ?_
        show Steps p.tables e below (T57.setTop (mkF m 173 #[.val (.long q1), .second, .val (.long q2), .second, .val (.int p3), .val (.int (p3 &&& (63 : Int32))), .val (.long ((1 : Int64) <<< ((p3 &&& (63 : Int32)) &&& 0x3f).toInt64)), .second, .val (.int (bI (¬ ((((p3.toUInt32 >>> ((6 : Int32) &&& 31).toUInt32).toInt32) &&& (1 : Int32)) = (0 : Int32))))), .val (.ref b7), .val (.ref b14), .val (.ref b24), .val (.int (own_hash q1 q2)), .val (.int (bI ((own_hash q1 q2) = (own_hash q1 q2)))), .val (.int (bI (((q1 = q1) ∧ (q2 = q2)) ∧ ((own_hash q1 q2) = (own_hash q1 q2))))), .val (.int (bI (¬ ((own_hash (q1 ^^^ ((1 : Int64) <<< ((p3 &&& (63 : Int32)) &&& 0x3f).toInt64)) q2) = (own_hash q1 q2)))))] [])) _
        refine XS.iconst X57.here hx rfl (hb hby at_173) ?_
        show Steps p.tables e below (T57.setTop (mkF m 174 #[.val (.long q1), .second, .val (.long q2), .second, .val (.int p3), .val (.int (p3 &&& (63 : Int32))), .val (.long ((1 : Int64) <<< ((p3 &&& (63 : Int32)) &&& 0x3f).toInt64)), .second, .val (.int (bI (¬ ((((p3.toUInt32 >>> ((6 : Int32) &&& 31).toUInt32).toInt32) &&& (1 : Int32)) = (0 : Int32))))), .val (.ref b7), .val (.ref b14), .val (.ref b24), .val (.int (own_hash q1 q2)), .val (.int (bI ((own_hash q1 q2) = (own_hash q1 q2)))), .val (.int (bI (((q1 = q1) ∧ (q2 = q2)) ∧ ((own_hash q1 q2) = (own_hash q1 q2))))), .val (.int (bI (¬ ((own_hash (q1 ^^^ ((1 : Int64) <<< ((p3 &&& (63 : Int32)) &&& 0x3f).toInt64)) q2) = (own_hash q1 q2)))))] [(.int (0 : Int32))])) _
        exact kk
    obtain ⟨fs, hr, hrun, hended, hW, hsame⟩ := X66.leave (v := some (.int (nar .boolean (bI (((own_hash q1 q2) = (own_hash q1 q2)) ∧ ((((q1 = q1) ∧ (q2 = q2)) ∧ ((own_hash q1 q2) = (own_hash q1 q2))) ∧ (¬ ((own_hash (q1 ^^^ ((1 : Int64) <<< ((p3 &&& (63 : Int32)) &&& 0x3f).toInt64)) q2) = (own_hash q1 q2))))))))) (fun h => by rw [Bd.returns] at h; cases h)
    refine ⟨_, _, pre66 _ ?_, hrun, hended, _, _, rfl, ?_, ⟨_, rfl⟩, hW, hsame.mono (by decide) (by decide)⟩
    · skip
      exact retN X66 hx (t := .boolean) Bd.returns (by simp) (hb hby at_174) hr
    · show Q0 Z q1 q2 p3 h0 n0 _ T66.heap _
      rw [e66]
      exact ⟨bI_one ⟨rfl, ⟨⟨rfl, rfl⟩, rfl⟩, own_flipH q1 q2 p3⟩, N66⟩
  · skip
    have pre71 : ∀ tgt, Steps p.tables e below (T19.setTop (mkF m 72 #[.val (.long q1), .second, .val (.long q2), .second, .val (.int p3), .val (.int (p3 &&& (63 : Int32))), .val (.long ((1 : Int64) <<< ((p3 &&& (63 : Int32)) &&& 0x3f).toInt64)), .second, .val (.int (bI (¬ ((((p3.toUInt32 >>> ((6 : Int32) &&& 31).toUInt32).toInt32) &&& (1 : Int32)) = (0 : Int32))))), .val (.ref b7), .val (.ref b14), .unset, .unset, .unset, .unset, .unset] [])) tgt → Steps p.tables e below (s₁.setTop (entryFrame m #[(.long q1), (.long q2), (.int p3)] maxLocals)) tgt := by
      intro tgt kk
      refine pre21 tgt ?_
      refine XS.ifYes X19.here hx rfl (pc0 := 54) (pc' := 72) rfl (hb hby at_54) rfl (bB_eq_t hc54_22) (by decide) (by decide) ?_
      show Steps p.tables e below (T19.setTop (mkF m 72 #[.val (.long q1), .second, .val (.long q2), .second, .val (.int p3), .val (.int (p3 &&& (63 : Int32))), .val (.long ((1 : Int64) <<< ((p3 &&& (63 : Int32)) &&& 0x3f).toInt64)), .second, .val (.int (bI (¬ ((((p3.toUInt32 >>> ((6 : Int32) &&& 31).toUInt32).toInt32) &&& (1 : Int32)) = (0 : Int32))))), .val (.ref b7), .val (.ref b14), .unset, .unset, .unset, .unset, .unset] [])) _
      exact kk
    obtain ⟨T72, h72, X72, e72, E72, A72, D72, -, st72⟩ := newO X19 hx hZ hown (hw _ (List.mem_of_getElem? (i := 0) rfl)) (hw _ (List.mem_of_getElem? (i := 1) rfl)) (hw _ (List.mem_of_getElem? (i := 2) rfl)) rfl (g := (mkF m 72 #[.val (.long q1), .second, .val (.long q2), .second, .val (.int p3), .val (.int (p3 &&& (63 : Int32))), .val (.long ((1 : Int64) <<< ((p3 &&& (63 : Int32)) &&& 0x3f).toInt64)), .second, .val (.int (bI (¬ ((((p3.toUInt32 >>> ((6 : Int32) &&& 31).toUInt32).toInt32) &&& (1 : Int32)) = (0 : Int32))))), .val (.ref b7), .val (.ref b14), .unset, .unset, .unset, .unset, .unset] [])) rfl (hb hby at_72) (by decide) (by decide)
    obtain ⟨b72, g72⟩ : ∃ z, z = T19.heap.size := ⟨_, rfl⟩
    rw [← g72] at A72 D72 st72
    have ne73 : b7 ≠ b72 := Nat.ne_of_lt (Nat.lt_of_lt_of_le E_b7.lt (Nat.le_of_eq g72.symm))
    have ne74 : b14 ≠ b72 := Nat.ne_of_lt (Nat.lt_of_lt_of_le E_b14.lt (Nat.le_of_eq g72.symm))
    have gn75 : n0 ≤ b72 := Nat.le_trans Zs20 (Nat.le_of_eq g72.symm)
    have sz75 : h0.size ≤ b72 := Nat.le_trans KC20.1 (Nat.le_of_eq g72.symm)
    have E_b7 : Exa Z h72 b7 "com/example/postie/postie/store/MessageId" := E_b7.ext E72
    have F_high_b7 : Fld Z h72 b7 "com/example/postie/postie/store/MessageId" "high" "J" (.long q1) := F_high_b7.ext E72
    have F_low_b7 : Fld Z h72 b7 "com/example/postie/postie/store/MessageId" "low" "J" (.long q2) := F_low_b7.ext E72
    have E_b14 : Exa Z h72 b14 "com/example/postie/postie/store/MessageId" := E_b14.ext E72
    have F_high_b14 : Fld Z h72 b14 "com/example/postie/postie/store/MessageId" "high" "J" (.long q1) := F_high_b14.ext E72
    have F_low_b14 : Fld Z h72 b14 "com/example/postie/postie/store/MessageId" "low" "J" (.long q2) := F_low_b14.ext E72
    have Zs76 : n0 ≤ h72.size := Nat.le_trans Zs20 E72.1
    have KC76 : Keep h0 h72 [] := KC20.ext E72
    have E_b72 : Exa Z h72 b72 "com/example/postie/postie/store/MessageId" := A72
    have F_high_b72 : Fld Z h72 b72 "com/example/postie/postie/store/MessageId" "high" "J" (.long (0 : Int64)) := D72 (Or.inr (hw _ (List.mem_of_getElem? (i := 10) rfl))) (ty := .long) (by decide)
    have F_low_b72 : Fld Z h72 b72 "com/example/postie/postie/store/MessageId" "low" "J" (.long (0 : Int64)) := D72 (Or.inr (hw _ (List.mem_of_getElem? (i := 12) rfl))) (ty := .long) (by decide)
    have pre77 : ∀ tgt, Steps p.tables e below (T72.setTop (mkF m 81 #[.val (.long q1), .second, .val (.long q2), .second, .val (.int p3), .val (.int (p3 &&& (63 : Int32))), .val (.long ((1 : Int64) <<< ((p3 &&& (63 : Int32)) &&& 0x3f).toInt64)), .second, .val (.int (bI (¬ ((((p3.toUInt32 >>> ((6 : Int32) &&& 31).toUInt32).toInt32) &&& (1 : Int32)) = (0 : Int32))))), .val (.ref b7), .val (.ref b14), .unset, .unset, .unset, .unset, .unset] [(.long (q2 ^^^ ((1 : Int64) <<< ((p3 &&& (63 : Int32)) &&& 0x3f).toInt64))), (.long q1), (.ref b72), (.ref b72)])) tgt → Steps p.tables e below (s₁.setTop (entryFrame m #[(.long q1), (.long q2), (.int p3)] maxLocals)) tgt := by
      intro tgt kk
      refine pre71 tgt ?_
      refine st72 _ ?_
      show Steps p.tables e below (T72.setTop (mkF m 75 #[.val (.long q1), .second, .val (.long q2), .second, .val (.int p3), .val (.int (p3 &&& (63 : Int32))), .val (.long ((1 : Int64) <<< ((p3 &&& (63 : Int32)) &&& 0x3f).toInt64)), .second, .val (.int (bI (¬ ((((p3.toUInt32 >>> ((6 : Int32) &&& 31).toUInt32).toInt32) &&& (1 : Int32)) = (0 : Int32))))), .val (.ref b7), .val (.ref b14), .unset, .unset, .unset, .unset, .unset] [(.ref b72)])) _
      refine XS.dup X72.here hx rfl (hb hby at_75) rfl rfl ?_
      show Steps p.tables e below (T72.setTop (mkF m 76 #[.val (.long q1), .second, .val (.long q2), .second, .val (.int p3), .val (.int (p3 &&& (63 : Int32))), .val (.long ((1 : Int64) <<< ((p3 &&& (63 : Int32)) &&& 0x3f).toInt64)), .second, .val (.int (bI (¬ ((((p3.toUInt32 >>> ((6 : Int32) &&& 31).toUInt32).toInt32) &&& (1 : Int32)) = (0 : Int32))))), .val (.ref b7), .val (.ref b14), .unset, .unset, .unset, .unset, .unset] [(.ref b72), (.ref b72)])) _
      refine XS.lloadN X72.here hx rfl (hb hby at_76) rfl ?_
      show Steps p.tables e below (T72.setTop (mkF m 77 #[.val (.long q1), .second, .val (.long q2), .second, .val (.int p3), .val (.int (p3 &&& (63 : Int32))), .val (.long ((1 : Int64) <<< ((p3 &&& (63 : Int32)) &&& 0x3f).toInt64)), .second, .val (.int (bI (¬ ((((p3.toUInt32 >>> ((6 : Int32) &&& 31).toUInt32).toInt32) &&& (1 : Int32)) = (0 : Int32))))), .val (.ref b7), .val (.ref b14), .unset, .unset, .unset, .unset, .unset] [(.long q1), (.ref b72), (.ref b72)])) _
      refine XS.lloadN X72.here hx rfl (hb hby at_77) rfl ?_
      show Steps p.tables e below (T72.setTop (mkF m 78 #[.val (.long q1), .second, .val (.long q2), .second, .val (.int p3), .val (.int (p3 &&& (63 : Int32))), .val (.long ((1 : Int64) <<< ((p3 &&& (63 : Int32)) &&& 0x3f).toInt64)), .second, .val (.int (bI (¬ ((((p3.toUInt32 >>> ((6 : Int32) &&& 31).toUInt32).toInt32) &&& (1 : Int32)) = (0 : Int32))))), .val (.ref b7), .val (.ref b14), .unset, .unset, .unset, .unset, .unset] [(.long q2), (.long q1), (.ref b72), (.ref b72)])) _
      refine XS.lload X72.here hx rfl (hb hby at_78) rfl ?_
      show Steps p.tables e below (T72.setTop (mkF m 80 #[.val (.long q1), .second, .val (.long q2), .second, .val (.int p3), .val (.int (p3 &&& (63 : Int32))), .val (.long ((1 : Int64) <<< ((p3 &&& (63 : Int32)) &&& 0x3f).toInt64)), .second, .val (.int (bI (¬ ((((p3.toUInt32 >>> ((6 : Int32) &&& 31).toUInt32).toInt32) &&& (1 : Int32)) = (0 : Int32))))), .val (.ref b7), .val (.ref b14), .unset, .unset, .unset, .unset, .unset] [(.long ((1 : Int64) <<< ((p3 &&& (63 : Int32)) &&& 0x3f).toInt64)), (.long q2), (.long q1), (.ref b72), (.ref b72)])) _
      refine XS.lxor X72.here hx rfl (hb hby at_80) rfl ?_
      show Steps p.tables e below (T72.setTop (mkF m 81 #[.val (.long q1), .second, .val (.long q2), .second, .val (.int p3), .val (.int (p3 &&& (63 : Int32))), .val (.long ((1 : Int64) <<< ((p3 &&& (63 : Int32)) &&& 0x3f).toInt64)), .second, .val (.int (bI (¬ ((((p3.toUInt32 >>> ((6 : Int32) &&& 31).toUInt32).toInt32) &&& (1 : Int32)) = (0 : Int32))))), .val (.ref b7), .val (.ref b14), .unset, .unset, .unset, .unset, .unset] [(.long (q2 ^^^ ((1 : Int64) <<< ((p3 &&& (63 : Int32)) &&& 0x3f).toInt64))), (.long q1), (.ref b72), (.ref b72)])) _
      exact kk
    obtain ⟨_, _, ⟨T78, L78, k78, n78⟩, -, X78, ⟨Lc78, hQ78, l78, y78, z78⟩, st78⟩ := X72.specialBack hx (y := (⟨"com/example/postie/postie/store/MessageId", "<init>", "(JJ)V"⟩ : MethodName)) rfl hown (mvT hZ (hw _ (List.mem_of_getElem? (i := 3) rfl))) (mvT hZ (hw _ (List.mem_of_getElem? (i := 4) rfl))) (mvT hZ (hw _ (List.mem_of_getElem? (i := 5) rfl))) (by decide) (backOf (W := 1) (rmI l Z a0 hw [] (b72) (q1) ((q2 ^^^ ((1 : Int64) <<< ((p3 &&& (63 : Int32)) &&& 0x3f).toInt64))) h72 n0 Zs76 E_b72 F_high_b72 F_low_b72 gn75) hZ (hw _ (List.mem_of_getElem? (i := 5) rfl)) (hw _ (List.mem_of_getElem? (i := 2) rfl)) (by decide) (by decide)) (g := (mkF m 81 #[.val (.long q1), .second, .val (.long q2), .second, .val (.int p3), .val (.int (p3 &&& (63 : Int32))), .val (.long ((1 : Int64) <<< ((p3 &&& (63 : Int32)) &&& 0x3f).toInt64)), .second, .val (.int (bI (¬ ((((p3.toUInt32 >>> ((6 : Int32) &&& 31).toUInt32).toInt32) &&& (1 : Int32)) = (0 : Int32))))), .val (.ref b7), .val (.ref b14), .unset, .unset, .unset, .unset, .unset] [(.long (q2 ^^^ ((1 : Int64) <<< ((p3 &&& (63 : Int32)) &&& 0x3f).toInt64))), (.long q1), (.ref b72), (.ref b72)])) rfl (by rw [hml]; rfl) (Steps.refl _) (a := b72) (argsL := [(.long q1), (.long (q2 ^^^ ((1 : Int64) <<< ((p3 &&& (63 : Int32)) &&& 0x3f).toInt64)))]) (rest := [(.ref b72)]) (lenOf pd__JJ_V rfl) rfl (by show 2 * 0 + _ ≤ _; exact Nat.le_of_eq rfl) (hb hby at_81) (fun _ _ => ⟨rfl, e72, (by decide : 3 + 0 ≤ _), (by decide : 6 + 0 ≤ _)⟩)
    dsimp only [Pt.U, Pt.locs, Pt.cells, Pt.slots] at X78 l78 y78 z78 st78 hQ78
    subst l78 y78 z78
    obtain ⟨rfl, N78q, K78, Fq78_0, Fq78_1⟩ := hQ78
    have N78 := Fr.app N19 N78q
    have E_b7 : Exa Z T78.heap b7 "com/example/postie/postie/store/MessageId" := E_b7.keep K78
    have F_high_b7 : Fld Z T78.heap b7 "com/example/postie/postie/store/MessageId" "high" "J" (.long q1) := F_high_b7.keep K78 (ninS ne73 nin0)
    have F_low_b7 : Fld Z T78.heap b7 "com/example/postie/postie/store/MessageId" "low" "J" (.long q2) := F_low_b7.keep K78 (ninS ne73 nin0)
    have E_b14 : Exa Z T78.heap b14 "com/example/postie/postie/store/MessageId" := E_b14.keep K78
    have F_high_b14 : Fld Z T78.heap b14 "com/example/postie/postie/store/MessageId" "high" "J" (.long q1) := F_high_b14.keep K78 (ninS ne74 nin0)
    have F_low_b14 : Fld Z T78.heap b14 "com/example/postie/postie/store/MessageId" "low" "J" (.long q2) := F_low_b14.keep K78 (ninS ne74 nin0)
    have E_b72 : Exa Z T78.heap b72 "com/example/postie/postie/store/MessageId" := E_b72.keep K78
    have Zs79 : n0 ≤ T78.heap.size := Nat.le_trans Zs76 K78.1
    have KC79 : Keep h0 T78.heap [] := KC76.trans K78 (allS (Or.inr sz75) all0)
    have F_high_b72 := Fq78_0
    have F_low_b72 := Fq78_1
    have pre80 : ∀ tgt, Steps p.tables e below (T78.setTop (mkF m 88 #[.val (.long q1), .second, .val (.long q2), .second, .val (.int p3), .val (.int (p3 &&& (63 : Int32))), .val (.long ((1 : Int64) <<< ((p3 &&& (63 : Int32)) &&& 0x3f).toInt64)), .second, .val (.int (bI (¬ ((((p3.toUInt32 >>> ((6 : Int32) &&& 31).toUInt32).toInt32) &&& (1 : Int32)) = (0 : Int32))))), .val (.ref b7), .val (.ref b14), .val (.ref b72), .unset, .unset, .unset, .unset] [(.ref b7)])) tgt → Steps p.tables e below (s₁.setTop (entryFrame m #[(.long q1), (.long q2), (.int p3)] maxLocals)) tgt := by
      intro tgt kk
      refine pre77 tgt ?_
      refine st78.trans ?_
      show Steps p.tables e below (T78.setTop (mkF m 84 #[.val (.long q1), .second, .val (.long q2), .second, .val (.int p3), .val (.int (p3 &&& (63 : Int32))), .val (.long ((1 : Int64) <<< ((p3 &&& (63 : Int32)) &&& 0x3f).toInt64)), .second, .val (.int (bI (¬ ((((p3.toUInt32 >>> ((6 : Int32) &&& 31).toUInt32).toInt32) &&& (1 : Int32)) = (0 : Int32))))), .val (.ref b7), .val (.ref b14), .unset, .unset, .unset, .unset, .unset] [(.ref b72)])) _
      refine XS.astore X78.here hx rfl (hb hby at_84) rfl rfl (l' := #[.val (.long q1), .second, .val (.long q2), .second, .val (.int p3), .val (.int (p3 &&& (63 : Int32))), .val (.long ((1 : Int64) <<< ((p3 &&& (63 : Int32)) &&& 0x3f).toInt64)), .second, .val (.int (bI (¬ ((((p3.toUInt32 >>> ((6 : Int32) &&& 31).toUInt32).toInt32) &&& (1 : Int32)) = (0 : Int32))))), .val (.ref b7), .val (.ref b14), .val (.ref b72), .unset, .unset, .unset, .unset]) rfl ?_
      show Steps p.tables e below (T78.setTop (mkF m 86 #[.val (.long q1), .second, .val (.long q2), .second, .val (.int p3), .val (.int (p3 &&& (63 : Int32))), .val (.long ((1 : Int64) <<< ((p3 &&& (63 : Int32)) &&& 0x3f).toInt64)), .second, .val (.int (bI (¬ ((((p3.toUInt32 >>> ((6 : Int32) &&& 31).toUInt32).toInt32) &&& (1 : Int32)) = (0 : Int32))))), .val (.ref b7), .val (.ref b14), .val (.ref b72), .unset, .unset, .unset, .unset] [])) _
      refine XS.aload X78.here hx rfl (hb hby at_86) rfl rfl ?_
      show Steps p.tables e below (T78.setTop (mkF m 88 #[.val (.long q1), .second, .val (.long q2), .second, .val (.int p3), .val (.int (p3 &&& (63 : Int32))), .val (.long ((1 : Int64) <<< ((p3 &&& (63 : Int32)) &&& 0x3f).toInt64)), .second, .val (.int (bI (¬ ((((p3.toUInt32 >>> ((6 : Int32) &&& 31).toUInt32).toInt32) &&& (1 : Int32)) = (0 : Int32))))), .val (.ref b7), .val (.ref b14), .val (.ref b72), .unset, .unset, .unset, .unset] [(.ref b7)])) _
      exact kk
    obtain ⟨cq81, kq81, q81a, q81b, q81c⟩ := isOf hZ rfl E_b7
    obtain ⟨_, _, ⟨T81, L81, k81, n81⟩, -, X81, ⟨Lc81, hQ81, l81, y81, z81⟩, st81⟩ := X78.virtualBack hx (y := (⟨"com/example/postie/postie/store/MessageId", "hashCode", "()I"⟩ : MethodName)) (z := (⟨"com/example/postie/postie/store/MessageId", "hashCode", "()I"⟩ : MethodName)) hown (mvT hZ (hw _ (List.mem_of_getElem? (i := 13) rfl))) (mvT hZ (hw _ (List.mem_of_getElem? (i := 14) rfl))) (notFace_of_selects (args := #[]) (mvT hZ (hw _ (List.mem_of_getElem? (i := 16) rfl)))) (mvT hZ (hw _ (List.mem_of_getElem? (i := 16) rfl))) (mvT hZ (hw _ (List.mem_of_getElem? (i := 15) rfl))) (by decide) (backOf (W := 0) (rmH l Z a0 hw [] b7 (q1) (q2) T78.heap n0 Zs79 F_high_b7 F_low_b7) hZ (hw _ (List.mem_of_getElem? (i := 17) rfl)) (hw _ (List.mem_of_getElem? (i := 2) rfl)) (by decide) (by decide)) q81a q81c (g := (mkF m 88 #[.val (.long q1), .second, .val (.long q2), .second, .val (.int p3), .val (.int (p3 &&& (63 : Int32))), .val (.long ((1 : Int64) <<< ((p3 &&& (63 : Int32)) &&& 0x3f).toInt64)), .second, .val (.int (bI (¬ ((((p3.toUInt32 >>> ((6 : Int32) &&& 31).toUInt32).toInt32) &&& (1 : Int32)) = (0 : Int32))))), .val (.ref b7), .val (.ref b14), .val (.ref b72), .unset, .unset, .unset, .unset] [(.ref b7)])) rfl (by rw [hml]; rfl) (Steps.refl _) (argsL := []) (rest := []) (lenOf pd___I rfl) rfl (by show 2 * 0 + _ ≤ _; exact Nat.le_of_eq rfl) (hb hby at_88) (fun _ _ => ⟨rfl, rfl, (by decide : 3 + 0 ≤ _), (by decide : 6 + 0 ≤ _)⟩)
    dsimp only [Pt.U, Pt.locs, Pt.cells, Pt.slots] at X81 l81 y81 z81 st81 hQ81
    subst l81 y81 z81
    obtain ⟨rfl, N81q, hh81⟩ := hQ81
    have N81 := Fr.app N78 N81q
    have pre82 : ∀ tgt, Steps p.tables e below (T81.setTop (mkF m 95 #[.val (.long q1), .second, .val (.long q2), .second, .val (.int p3), .val (.int (p3 &&& (63 : Int32))), .val (.long ((1 : Int64) <<< ((p3 &&& (63 : Int32)) &&& 0x3f).toInt64)), .second, .val (.int (bI (¬ ((((p3.toUInt32 >>> ((6 : Int32) &&& 31).toUInt32).toInt32) &&& (1 : Int32)) = (0 : Int32))))), .val (.ref b7), .val (.ref b14), .val (.ref b72), .val (.int (own_hash q1 q2)), .unset, .unset, .unset] [(.ref b7)])) tgt → Steps p.tables e below (s₁.setTop (entryFrame m #[(.long q1), (.long q2), (.int p3)] maxLocals)) tgt := by
      intro tgt kk
      refine pre80 tgt ?_
      refine st81.trans ?_
      show Steps p.tables e below (T81.setTop (mkF m 91 #[.val (.long q1), .second, .val (.long q2), .second, .val (.int p3), .val (.int (p3 &&& (63 : Int32))), .val (.long ((1 : Int64) <<< ((p3 &&& (63 : Int32)) &&& 0x3f).toInt64)), .second, .val (.int (bI (¬ ((((p3.toUInt32 >>> ((6 : Int32) &&& 31).toUInt32).toInt32) &&& (1 : Int32)) = (0 : Int32))))), .val (.ref b7), .val (.ref b14), .val (.ref b72), .unset, .unset, .unset, .unset] [(.int (own_hash q1 q2))])) _
      refine XS.istore X81.here hx rfl (hb hby at_91) rfl (l' := #[.val (.long q1), .second, .val (.long q2), .second, .val (.int p3), .val (.int (p3 &&& (63 : Int32))), .val (.long ((1 : Int64) <<< ((p3 &&& (63 : Int32)) &&& 0x3f).toInt64)), .second, .val (.int (bI (¬ ((((p3.toUInt32 >>> ((6 : Int32) &&& 31).toUInt32).toInt32) &&& (1 : Int32)) = (0 : Int32))))), .val (.ref b7), .val (.ref b14), .val (.ref b72), .val (.int (own_hash q1 q2)), .unset, .unset, .unset]) rfl ?_
      show Steps p.tables e below (T81.setTop (mkF m 93 #[.val (.long q1), .second, .val (.long q2), .second, .val (.int p3), .val (.int (p3 &&& (63 : Int32))), .val (.long ((1 : Int64) <<< ((p3 &&& (63 : Int32)) &&& 0x3f).toInt64)), .second, .val (.int (bI (¬ ((((p3.toUInt32 >>> ((6 : Int32) &&& 31).toUInt32).toInt32) &&& (1 : Int32)) = (0 : Int32))))), .val (.ref b7), .val (.ref b14), .val (.ref b72), .val (.int (own_hash q1 q2)), .unset, .unset, .unset] [])) _
      refine XS.aload X81.here hx rfl (hb hby at_93) rfl rfl ?_
      show Steps p.tables e below (T81.setTop (mkF m 95 #[.val (.long q1), .second, .val (.long q2), .second, .val (.int p3), .val (.int (p3 &&& (63 : Int32))), .val (.long ((1 : Int64) <<< ((p3 &&& (63 : Int32)) &&& 0x3f).toInt64)), .second, .val (.int (bI (¬ ((((p3.toUInt32 >>> ((6 : Int32) &&& 31).toUInt32).toInt32) &&& (1 : Int32)) = (0 : Int32))))), .val (.ref b7), .val (.ref b14), .val (.ref b72), .val (.int (own_hash q1 q2)), .unset, .unset, .unset] [(.ref b7)])) _
      exact kk
    obtain ⟨cq83, kq83, q83a, q83b, q83c⟩ := isOf hZ hh81 E_b7
    obtain ⟨_, _, ⟨T83, L83, k83, n83⟩, -, X83, ⟨Lc83, hQ83, l83, y83, z83⟩, st83⟩ := X81.virtualBack hx (y := (⟨"com/example/postie/postie/store/MessageId", "hashCode", "()I"⟩ : MethodName)) (z := (⟨"com/example/postie/postie/store/MessageId", "hashCode", "()I"⟩ : MethodName)) hown (mvT hZ (hw _ (List.mem_of_getElem? (i := 13) rfl))) (mvT hZ (hw _ (List.mem_of_getElem? (i := 14) rfl))) (notFace_of_selects (args := #[]) (mvT hZ (hw _ (List.mem_of_getElem? (i := 16) rfl)))) (mvT hZ (hw _ (List.mem_of_getElem? (i := 16) rfl))) (mvT hZ (hw _ (List.mem_of_getElem? (i := 15) rfl))) (by decide) (backOf (W := 0) (rmH l Z a0 hw [] b7 (q1) (q2) T78.heap n0 Zs79 F_high_b7 F_low_b7) hZ (hw _ (List.mem_of_getElem? (i := 17) rfl)) (hw _ (List.mem_of_getElem? (i := 2) rfl)) (by decide) (by decide)) q83a q83c (g := (mkF m 95 #[.val (.long q1), .second, .val (.long q2), .second, .val (.int p3), .val (.int (p3 &&& (63 : Int32))), .val (.long ((1 : Int64) <<< ((p3 &&& (63 : Int32)) &&& 0x3f).toInt64)), .second, .val (.int (bI (¬ ((((p3.toUInt32 >>> ((6 : Int32) &&& 31).toUInt32).toInt32) &&& (1 : Int32)) = (0 : Int32))))), .val (.ref b7), .val (.ref b14), .val (.ref b72), .val (.int (own_hash q1 q2)), .unset, .unset, .unset] [(.ref b7)])) rfl (by rw [hml]; rfl) (Steps.refl _) (argsL := []) (rest := []) (lenOf pd___I rfl) rfl (by show 2 * 0 + _ ≤ _; exact Nat.le_of_eq rfl) (hb hby at_95) (fun _ _ => ⟨rfl, hh81, (by decide : 3 + 0 ≤ _), (by decide : 6 + 0 ≤ _)⟩)
    dsimp only [Pt.U, Pt.locs, Pt.cells, Pt.slots] at X83 l83 y83 z83 st83 hQ83
    subst l83 y83 z83
    obtain ⟨rfl, N83q, hh83⟩ := hQ83
    have N83 := Fr.app N81 N83q
    have pre84 : ∀ tgt, Steps p.tables e below (T83.setTop (mkF m 100 #[.val (.long q1), .second, .val (.long q2), .second, .val (.int p3), .val (.int (p3 &&& (63 : Int32))), .val (.long ((1 : Int64) <<< ((p3 &&& (63 : Int32)) &&& 0x3f).toInt64)), .second, .val (.int (bI (¬ ((((p3.toUInt32 >>> ((6 : Int32) &&& 31).toUInt32).toInt32) &&& (1 : Int32)) = (0 : Int32))))), .val (.ref b7), .val (.ref b14), .val (.ref b72), .val (.int (own_hash q1 q2)), .unset, .unset, .unset] [(.int (own_hash q1 q2)), (.int (own_hash q1 q2))])) tgt → Steps p.tables e below (s₁.setTop (entryFrame m #[(.long q1), (.long q2), (.int p3)] maxLocals)) tgt := by
      intro tgt kk
      refine pre82 tgt ?_
      refine st83.trans ?_
      show Steps p.tables e below (T83.setTop (mkF m 98 #[.val (.long q1), .second, .val (.long q2), .second, .val (.int p3), .val (.int (p3 &&& (63 : Int32))), .val (.long ((1 : Int64) <<< ((p3 &&& (63 : Int32)) &&& 0x3f).toInt64)), .second, .val (.int (bI (¬ ((((p3.toUInt32 >>> ((6 : Int32) &&& 31).toUInt32).toInt32) &&& (1 : Int32)) = (0 : Int32))))), .val (.ref b7), .val (.ref b14), .val (.ref b72), .val (.int (own_hash q1 q2)), .unset, .unset, .unset] [(.int (own_hash q1 q2))])) _
      refine XS.iload X83.here hx rfl (hb hby at_98) rfl ?_
      show Steps p.tables e below (T83.setTop (mkF m 100 #[.val (.long q1), .second, .val (.long q2), .second, .val (.int p3), .val (.int (p3 &&& (63 : Int32))), .val (.long ((1 : Int64) <<< ((p3 &&& (63 : Int32)) &&& 0x3f).toInt64)), .second, .val (.int (bI (¬ ((((p3.toUInt32 >>> ((6 : Int32) &&& 31).toUInt32).toInt32) &&& (1 : Int32)) = (0 : Int32))))), .val (.ref b7), .val (.ref b14), .val (.ref b72), .val (.int (own_hash q1 q2)), .unset, .unset, .unset] [(.int (own_hash q1 q2)), (.int (own_hash q1 q2))])) _
      exact kk
    obtain ⟨T86, lo86, X86, N86, e86, pre86⟩ : ∃ (T' : State) (lo : List Loc), Stand p l e room_1 s m #[(.long q1), (.long q2), (.int p3)] below meth c T' lo 3 6 ∧ Fr n0 lo ∧ T'.heap = T78.heap ∧ ∀ tgt, Steps p.tables e below (T'.setTop (mkF m 108 #[.val (.long q1), .second, .val (.long q2), .second, .val (.int p3), .val (.int (p3 &&& (63 : Int32))), .val (.long ((1 : Int64) <<< ((p3 &&& (63 : Int32)) &&& 0x3f).toInt64)), .second, .val (.int (bI (¬ ((((p3.toUInt32 >>> ((6 : Int32) &&& 31).toUInt32).toInt32) &&& (1 : Int32)) = (0 : Int32))))), .val (.ref b7), .val (.ref b14), .val (.ref b72), .val (.int (own_hash q1 q2)), .unset, .unset, .unset] [(.int (bI ((own_hash q1 q2) = (own_hash q1 q2))))])) tgt → Steps p.tables e below (s₁.setTop (entryFrame m #[(.long q1), (.long q2), (.int p3)] maxLocals)) tgt := by
      by_cases hc100_85 : (own_hash q1 q2) = (own_hash q1 q2)
      · skip
        refine ⟨T83, _, X83, N83, hh83, fun tgt kk => ?_⟩
        have kq87 : ((.int (bI ((own_hash q1 q2) = (own_hash q1 q2)))) : Value) = (.int (1 : Int32)) := (congrArg Value.int (bI_t hc100_85))
        rw [kq87] at kk
        refine pre84 tgt ?_
        refine XS.icmpNo X83.here hx rfl (hb hby at_100) rfl (XT.ii_ne_f hc100_85) ?_
        show Steps p.tables e below (T83.setTop (mkF m 103 #[.val (.long q1), .second, .val (.long q2), .second, .val (.int p3), .val (.int (p3 &&& (63 : Int32))), .val (.long ((1 : Int64) <<< ((p3 &&& (63 : Int32)) &&& 0x3f).toInt64)), .second, .val (.int (bI (¬ ((((p3.toUInt32 >>> ((6 : Int32) &&& 31).toUInt32).toInt32) &&& (1 : Int32)) = (0 : Int32))))), .val (.ref b7), .val (.ref b14), .val (.ref b72), .val (.int (own_hash q1 q2)), .unset, .unset, .unset] [])) _
        refine XS.iconst X83.here hx rfl (hb hby at_103) ?_
        show Steps p.tables e below (T83.setTop (mkF m 104 #[.val (.long q1), .second, .val (.long q2), .second, .val (.int p3), .val (.int (p3 &&& (63 : Int32))), .val (.long ((1 : Int64) <<< ((p3 &&& (63 : Int32)) &&& 0x3f).toInt64)), .second, .val (.int (bI (¬ ((((p3.toUInt32 >>> ((6 : Int32) &&& 31).toUInt32).toInt32) &&& (1 : Int32)) = (0 : Int32))))), .val (.ref b7), .val (.ref b14), .val (.ref b72), .val (.int (own_hash q1 q2)), .unset, .unset, .unset] [(.int (1 : Int32))])) _
        refine XS.goto X83.here hx rfl (pc0 := 104) (pc' := 108) rfl (hb hby at_104) (by decide) (by decide) ?_
        show Steps p.tables e below (T83.setTop (mkF m 108 #[.val (.long q1), .second, .val (.long q2), .second, .val (.int p3), .val (.int (p3 &&& (63 : Int32))), .val (.long ((1 : Int64) <<< ((p3 &&& (63 : Int32)) &&& 0x3f).toInt64)), .second, .val (.int (bI (¬ ((((p3.toUInt32 >>> ((6 : Int32) &&& 31).toUInt32).toInt32) &&& (1 : Int32)) = (0 : Int32))))), .val (.ref b7), .val (.ref b14), .val (.ref b72), .val (.int (own_hash q1 q2)), .unset, .unset, .unset] [(.int (1 : Int32))])) _
        exact kk
      · skip
        refine ⟨T83, _, X83, N83, hh83, fun tgt kk => ?_⟩
        have kq88 : ((.int (bI ((own_hash q1 q2) = (own_hash q1 q2)))) : Value) = (.int (0 : Int32)) := (congrArg Value.int (bI_f hc100_85))
        rw [kq88] at kk
        refine pre84 tgt ?_
        refine XS.icmpYes X83.here hx rfl (pc0 := 100) (pc' := 107) rfl (hb hby at_100) rfl (XT.ii_ne_t hc100_85) (by decide) (by decide) ?_
        show Steps p.tables e below (T83.setTop (mkF m 107 #[.val (.long q1), .second, .val (.long q2), .second, .val (.int p3), .val (.int (p3 &&& (63 : Int32))), .val (.long ((1 : Int64) <<< ((p3 &&& (63 : Int32)) &&& 0x3f).toInt64)), .second, .val (.int (bI (¬ ((((p3.toUInt32 >>> ((6 : Int32) &&& 31).toUInt32).toInt32) &&& (1 : Int32)) = (0 : Int32))))), .val (.ref b7), .val (.ref b14), .val (.ref b72), .val (.int (own_hash q1 q2)), .unset, .unset, .unset] [])) _
        refine XS.iconst X83.here hx rfl (hb hby at_107) ?_
        show Steps p.tables e below (T83.setTop (mkF m 108 #[.val (.long q1), .second, .val (.long q2), .second, .val (.int p3), .val (.int (p3 &&& (63 : Int32))), .val (.long ((1 : Int64) <<< ((p3 &&& (63 : Int32)) &&& 0x3f).toInt64)), .second, .val (.int (bI (¬ ((((p3.toUInt32 >>> ((6 : Int32) &&& 31).toUInt32).toInt32) &&& (1 : Int32)) = (0 : Int32))))), .val (.ref b7), .val (.ref b14), .val (.ref b72), .val (.int (own_hash q1 q2)), .unset, .unset, .unset] [(.int (0 : Int32))])) _
        exact kk
    have pre89 : ∀ tgt, Steps p.tables e below (T86.setTop (mkF m 114 #[.val (.long q1), .second, .val (.long q2), .second, .val (.int p3), .val (.int (p3 &&& (63 : Int32))), .val (.long ((1 : Int64) <<< ((p3 &&& (63 : Int32)) &&& 0x3f).toInt64)), .second, .val (.int (bI (¬ ((((p3.toUInt32 >>> ((6 : Int32) &&& 31).toUInt32).toInt32) &&& (1 : Int32)) = (0 : Int32))))), .val (.ref b7), .val (.ref b14), .val (.ref b72), .val (.int (own_hash q1 q2)), .val (.int (bI ((own_hash q1 q2) = (own_hash q1 q2)))), .unset, .unset] [(.ref b7), (.ref b14)])) tgt → Steps p.tables e below (s₁.setTop (entryFrame m #[(.long q1), (.long q2), (.int p3)] maxLocals)) tgt := by
      intro tgt kk
      refine pre86 tgt ?_
      refine XS.istore X86.here hx rfl (hb hby at_108) rfl (l' := #[.val (.long q1), .second, .val (.long q2), .second, .val (.int p3), .val (.int (p3 &&& (63 : Int32))), .val (.long ((1 : Int64) <<< ((p3 &&& (63 : Int32)) &&& 0x3f).toInt64)), .second, .val (.int (bI (¬ ((((p3.toUInt32 >>> ((6 : Int32) &&& 31).toUInt32).toInt32) &&& (1 : Int32)) = (0 : Int32))))), .val (.ref b7), .val (.ref b14), .val (.ref b72), .val (.int (own_hash q1 q2)), .val (.int (bI ((own_hash q1 q2) = (own_hash q1 q2)))), .unset, .unset]) rfl ?_
      show Steps p.tables e below (T86.setTop (mkF m 110 #[.val (.long q1), .second, .val (.long q2), .second, .val (.int p3), .val (.int (p3 &&& (63 : Int32))), .val (.long ((1 : Int64) <<< ((p3 &&& (63 : Int32)) &&& 0x3f).toInt64)), .second, .val (.int (bI (¬ ((((p3.toUInt32 >>> ((6 : Int32) &&& 31).toUInt32).toInt32) &&& (1 : Int32)) = (0 : Int32))))), .val (.ref b7), .val (.ref b14), .val (.ref b72), .val (.int (own_hash q1 q2)), .val (.int (bI ((own_hash q1 q2) = (own_hash q1 q2)))), .unset, .unset] [])) _
      refine XS.aload X86.here hx rfl (hb hby at_110) rfl rfl ?_
      show Steps p.tables e below (T86.setTop (mkF m 112 #[.val (.long q1), .second, .val (.long q2), .second, .val (.int p3), .val (.int (p3 &&& (63 : Int32))), .val (.long ((1 : Int64) <<< ((p3 &&& (63 : Int32)) &&& 0x3f).toInt64)), .second, .val (.int (bI (¬ ((((p3.toUInt32 >>> ((6 : Int32) &&& 31).toUInt32).toInt32) &&& (1 : Int32)) = (0 : Int32))))), .val (.ref b7), .val (.ref b14), .val (.ref b72), .val (.int (own_hash q1 q2)), .val (.int (bI ((own_hash q1 q2) = (own_hash q1 q2)))), .unset, .unset] [(.ref b14)])) _
      refine XS.aload X86.here hx rfl (hb hby at_112) rfl rfl ?_
      show Steps p.tables e below (T86.setTop (mkF m 114 #[.val (.long q1), .second, .val (.long q2), .second, .val (.int p3), .val (.int (p3 &&& (63 : Int32))), .val (.long ((1 : Int64) <<< ((p3 &&& (63 : Int32)) &&& 0x3f).toInt64)), .second, .val (.int (bI (¬ ((((p3.toUInt32 >>> ((6 : Int32) &&& 31).toUInt32).toInt32) &&& (1 : Int32)) = (0 : Int32))))), .val (.ref b7), .val (.ref b14), .val (.ref b72), .val (.int (own_hash q1 q2)), .val (.int (bI ((own_hash q1 q2) = (own_hash q1 q2)))), .unset, .unset] [(.ref b7), (.ref b14)])) _
      exact kk
    obtain ⟨cq90, kq90, q90a, q90b, q90c⟩ := isOf hZ e86 E_b14
    obtain ⟨_, _, ⟨T90, L90, k90, n90⟩, -, X90, ⟨Lc90, hQ90, l90, y90, z90⟩, st90⟩ := X86.virtualBack hx (y := (⟨"com/example/postie/postie/store/MessageId", "equals", "(Ljava/lang/Object;)Z"⟩ : MethodName)) (z := (⟨"com/example/postie/postie/store/MessageId", "equals", "(Ljava/lang/Object;)Z"⟩ : MethodName)) hown (mvT hZ (hw _ (List.mem_of_getElem? (i := 22) rfl))) (mvT hZ (hw _ (List.mem_of_getElem? (i := 23) rfl))) (notFace_of_selects (args := #[]) (mvT hZ (hw _ (List.mem_of_getElem? (i := 25) rfl)))) (mvT hZ (hw _ (List.mem_of_getElem? (i := 25) rfl))) (mvT hZ (hw _ (List.mem_of_getElem? (i := 24) rfl))) (by decide) (backOf (W := 0) (rmE l Z a0 hw [] b14 b7 (q1) (q2) (q1) (q2) T78.heap n0 Zs79 F_high_b14 F_low_b14 F_high_b7 F_low_b7 E_b7) hZ (hw _ (List.mem_of_getElem? (i := 26) rfl)) (hw _ (List.mem_of_getElem? (i := 2) rfl)) (by decide) (by decide)) q90a q90c (g := (mkF m 114 #[.val (.long q1), .second, .val (.long q2), .second, .val (.int p3), .val (.int (p3 &&& (63 : Int32))), .val (.long ((1 : Int64) <<< ((p3 &&& (63 : Int32)) &&& 0x3f).toInt64)), .second, .val (.int (bI (¬ ((((p3.toUInt32 >>> ((6 : Int32) &&& 31).toUInt32).toInt32) &&& (1 : Int32)) = (0 : Int32))))), .val (.ref b7), .val (.ref b14), .val (.ref b72), .val (.int (own_hash q1 q2)), .val (.int (bI ((own_hash q1 q2) = (own_hash q1 q2)))), .unset, .unset] [(.ref b7), (.ref b14)])) rfl (by rw [hml]; rfl) (Steps.refl _) (argsL := [(.ref b7)]) (rest := []) (lenOf pd__Ljava_lang_Object__Z rfl) rfl (by show 2 * 0 + _ ≤ _; exact Nat.le_of_eq rfl) (hb hby at_114) (fun _ _ => ⟨rfl, e86, (by decide : 3 + 0 ≤ _), (by decide : 6 + 0 ≤ _)⟩)
    dsimp only [Pt.U, Pt.locs, Pt.cells, Pt.slots] at X90 l90 y90 z90 st90 hQ90
    subst l90 y90 z90
    obtain ⟨rfl, N90q, hh90⟩ := hQ90
    have N90 := Fr.app N86 N90q
    have pre91 : ∀ tgt, Steps p.tables e below (T90.setTop (mkF m 117 #[.val (.long q1), .second, .val (.long q2), .second, .val (.int p3), .val (.int (p3 &&& (63 : Int32))), .val (.long ((1 : Int64) <<< ((p3 &&& (63 : Int32)) &&& 0x3f).toInt64)), .second, .val (.int (bI (¬ ((((p3.toUInt32 >>> ((6 : Int32) &&& 31).toUInt32).toInt32) &&& (1 : Int32)) = (0 : Int32))))), .val (.ref b7), .val (.ref b14), .val (.ref b72), .val (.int (own_hash q1 q2)), .val (.int (bI ((own_hash q1 q2) = (own_hash q1 q2)))), .unset, .unset] [(.int (bI ((q1 = q1) ∧ (q2 = q2))))])) tgt → Steps p.tables e below (s₁.setTop (entryFrame m #[(.long q1), (.long q2), (.int p3)] maxLocals)) tgt := by
      intro tgt kk
      refine pre89 tgt ?_
      refine st90.trans ?_
      show Steps p.tables e below (T90.setTop (mkF m 117 #[.val (.long q1), .second, .val (.long q2), .second, .val (.int p3), .val (.int (p3 &&& (63 : Int32))), .val (.long ((1 : Int64) <<< ((p3 &&& (63 : Int32)) &&& 0x3f).toInt64)), .second, .val (.int (bI (¬ ((((p3.toUInt32 >>> ((6 : Int32) &&& 31).toUInt32).toInt32) &&& (1 : Int32)) = (0 : Int32))))), .val (.ref b7), .val (.ref b14), .val (.ref b72), .val (.int (own_hash q1 q2)), .val (.int (bI ((own_hash q1 q2) = (own_hash q1 q2)))), .unset, .unset] [(.int (bI ((q1 = q1) ∧ (q2 = q2))))])) _
      exact kk
    obtain ⟨T97, lo97, X97, N97, e97, pre97⟩ : ∃ (T' : State) (lo : List Loc), Stand p l e room_1 s m #[(.long q1), (.long q2), (.int p3)] below meth c T' lo 3 6 ∧ Fr n0 lo ∧ T'.heap = T78.heap ∧ ∀ tgt, Steps p.tables e below (T'.setTop (mkF m 135 #[.val (.long q1), .second, .val (.long q2), .second, .val (.int p3), .val (.int (p3 &&& (63 : Int32))), .val (.long ((1 : Int64) <<< ((p3 &&& (63 : Int32)) &&& 0x3f).toInt64)), .second, .val (.int (bI (¬ ((((p3.toUInt32 >>> ((6 : Int32) &&& 31).toUInt32).toInt32) &&& (1 : Int32)) = (0 : Int32))))), .val (.ref b7), .val (.ref b14), .val (.ref b72), .val (.int (own_hash q1 q2)), .val (.int (bI ((own_hash q1 q2) = (own_hash q1 q2)))), .unset, .unset] [(.int (bI (((q1 = q1) ∧ (q2 = q2)) ∧ ((own_hash q1 q2) = (own_hash q1 q2)))))])) tgt → Steps p.tables e below (s₁.setTop (entryFrame m #[(.long q1), (.long q2), (.int p3)] maxLocals)) tgt := by
      by_cases hc117_92 : (q1 = q1) ∧ (q2 = q2)
      · skip
        have pre93 : ∀ tgt, Steps p.tables e below (T90.setTop (mkF m 122 #[.val (.long q1), .second, .val (.long q2), .second, .val (.int p3), .val (.int (p3 &&& (63 : Int32))), .val (.long ((1 : Int64) <<< ((p3 &&& (63 : Int32)) &&& 0x3f).toInt64)), .second, .val (.int (bI (¬ ((((p3.toUInt32 >>> ((6 : Int32) &&& 31).toUInt32).toInt32) &&& (1 : Int32)) = (0 : Int32))))), .val (.ref b7), .val (.ref b14), .val (.ref b72), .val (.int (own_hash q1 q2)), .val (.int (bI ((own_hash q1 q2) = (own_hash q1 q2)))), .unset, .unset] [(.ref b14)])) tgt → Steps p.tables e below (s₁.setTop (entryFrame m #[(.long q1), (.long q2), (.int p3)] maxLocals)) tgt := by
          intro tgt kk
          refine pre91 tgt ?_
          refine XS.ifNo X90.here hx rfl (hb hby at_117) rfl (bB_eq_f hc117_92) ?_
          show Steps p.tables e below (T90.setTop (mkF m 120 #[.val (.long q1), .second, .val (.long q2), .second, .val (.int p3), .val (.int (p3 &&& (63 : Int32))), .val (.long ((1 : Int64) <<< ((p3 &&& (63 : Int32)) &&& 0x3f).toInt64)), .second, .val (.int (bI (¬ ((((p3.toUInt32 >>> ((6 : Int32) &&& 31).toUInt32).toInt32) &&& (1 : Int32)) = (0 : Int32))))), .val (.ref b7), .val (.ref b14), .val (.ref b72), .val (.int (own_hash q1 q2)), .val (.int (bI ((own_hash q1 q2) = (own_hash q1 q2)))), .unset, .unset] [])) _
          refine XS.aload X90.here hx rfl (hb hby at_120) rfl rfl ?_
          show Steps p.tables e below (T90.setTop (mkF m 122 #[.val (.long q1), .second, .val (.long q2), .second, .val (.int p3), .val (.int (p3 &&& (63 : Int32))), .val (.long ((1 : Int64) <<< ((p3 &&& (63 : Int32)) &&& 0x3f).toInt64)), .second, .val (.int (bI (¬ ((((p3.toUInt32 >>> ((6 : Int32) &&& 31).toUInt32).toInt32) &&& (1 : Int32)) = (0 : Int32))))), .val (.ref b7), .val (.ref b14), .val (.ref b72), .val (.int (own_hash q1 q2)), .val (.int (bI ((own_hash q1 q2) = (own_hash q1 q2)))), .unset, .unset] [(.ref b14)])) _
          exact kk
        obtain ⟨cq94, kq94, q94a, q94b, q94c⟩ := isOf hZ hh90 E_b14
        obtain ⟨_, _, ⟨T94, L94, k94, n94⟩, -, X94, ⟨Lc94, hQ94, l94, y94, z94⟩, st94⟩ := X90.virtualBack hx (y := (⟨"com/example/postie/postie/store/MessageId", "hashCode", "()I"⟩ : MethodName)) (z := (⟨"com/example/postie/postie/store/MessageId", "hashCode", "()I"⟩ : MethodName)) hown (mvT hZ (hw _ (List.mem_of_getElem? (i := 13) rfl))) (mvT hZ (hw _ (List.mem_of_getElem? (i := 14) rfl))) (notFace_of_selects (args := #[]) (mvT hZ (hw _ (List.mem_of_getElem? (i := 16) rfl)))) (mvT hZ (hw _ (List.mem_of_getElem? (i := 16) rfl))) (mvT hZ (hw _ (List.mem_of_getElem? (i := 15) rfl))) (by decide) (backOf (W := 0) (rmH l Z a0 hw [] b14 (q1) (q2) T78.heap n0 Zs79 F_high_b14 F_low_b14) hZ (hw _ (List.mem_of_getElem? (i := 17) rfl)) (hw _ (List.mem_of_getElem? (i := 2) rfl)) (by decide) (by decide)) q94a q94c (g := (mkF m 122 #[.val (.long q1), .second, .val (.long q2), .second, .val (.int p3), .val (.int (p3 &&& (63 : Int32))), .val (.long ((1 : Int64) <<< ((p3 &&& (63 : Int32)) &&& 0x3f).toInt64)), .second, .val (.int (bI (¬ ((((p3.toUInt32 >>> ((6 : Int32) &&& 31).toUInt32).toInt32) &&& (1 : Int32)) = (0 : Int32))))), .val (.ref b7), .val (.ref b14), .val (.ref b72), .val (.int (own_hash q1 q2)), .val (.int (bI ((own_hash q1 q2) = (own_hash q1 q2)))), .unset, .unset] [(.ref b14)])) rfl (by rw [hml]; rfl) (Steps.refl _) (argsL := []) (rest := []) (lenOf pd___I rfl) rfl (by show 2 * 0 + _ ≤ _; exact Nat.le_of_eq rfl) (hb hby at_122) (fun _ _ => ⟨rfl, hh90, (by decide : 3 + 0 ≤ _), (by decide : 6 + 0 ≤ _)⟩)
        dsimp only [Pt.U, Pt.locs, Pt.cells, Pt.slots] at X94 l94 y94 z94 st94 hQ94
        subst l94 y94 z94
        obtain ⟨rfl, N94q, hh94⟩ := hQ94
        have N94 := Fr.app N90 N94q
        have pre95 : ∀ tgt, Steps p.tables e below (T94.setTop (mkF m 127 #[.val (.long q1), .second, .val (.long q2), .second, .val (.int p3), .val (.int (p3 &&& (63 : Int32))), .val (.long ((1 : Int64) <<< ((p3 &&& (63 : Int32)) &&& 0x3f).toInt64)), .second, .val (.int (bI (¬ ((((p3.toUInt32 >>> ((6 : Int32) &&& 31).toUInt32).toInt32) &&& (1 : Int32)) = (0 : Int32))))), .val (.ref b7), .val (.ref b14), .val (.ref b72), .val (.int (own_hash q1 q2)), .val (.int (bI ((own_hash q1 q2) = (own_hash q1 q2)))), .unset, .unset] [(.int (own_hash q1 q2)), (.int (own_hash q1 q2))])) tgt → Steps p.tables e below (s₁.setTop (entryFrame m #[(.long q1), (.long q2), (.int p3)] maxLocals)) tgt := by
          intro tgt kk
          refine pre93 tgt ?_
          refine st94.trans ?_
          show Steps p.tables e below (T94.setTop (mkF m 125 #[.val (.long q1), .second, .val (.long q2), .second, .val (.int p3), .val (.int (p3 &&& (63 : Int32))), .val (.long ((1 : Int64) <<< ((p3 &&& (63 : Int32)) &&& 0x3f).toInt64)), .second, .val (.int (bI (¬ ((((p3.toUInt32 >>> ((6 : Int32) &&& 31).toUInt32).toInt32) &&& (1 : Int32)) = (0 : Int32))))), .val (.ref b7), .val (.ref b14), .val (.ref b72), .val (.int (own_hash q1 q2)), .val (.int (bI ((own_hash q1 q2) = (own_hash q1 q2)))), .unset, .unset] [(.int (own_hash q1 q2))])) _
          refine XS.iload X94.here hx rfl (hb hby at_125) rfl ?_
          show Steps p.tables e below (T94.setTop (mkF m 127 #[.val (.long q1), .second, .val (.long q2), .second, .val (.int p3), .val (.int (p3 &&& (63 : Int32))), .val (.long ((1 : Int64) <<< ((p3 &&& (63 : Int32)) &&& 0x3f).toInt64)), .second, .val (.int (bI (¬ ((((p3.toUInt32 >>> ((6 : Int32) &&& 31).toUInt32).toInt32) &&& (1 : Int32)) = (0 : Int32))))), .val (.ref b7), .val (.ref b14), .val (.ref b72), .val (.int (own_hash q1 q2)), .val (.int (bI ((own_hash q1 q2) = (own_hash q1 q2)))), .unset, .unset] [(.int (own_hash q1 q2)), (.int (own_hash q1 q2))])) _
          exact kk
        by_cases hc127_96 : (own_hash q1 q2) = (own_hash q1 q2)
        · skip
          refine ⟨T94, _, X94, N94, hh94, fun tgt kk => ?_⟩
          have kq98 : ((.int (bI (((q1 = q1) ∧ (q2 = q2)) ∧ ((own_hash q1 q2) = (own_hash q1 q2))))) : Value) = (.int (1 : Int32)) := ((congrArg Value.int (bI_iff (and_iff_right hc117_92))).trans (congrArg Value.int (bI_t hc127_96)))
          rw [kq98] at kk
          refine pre95 tgt ?_
          refine XS.icmpNo X94.here hx rfl (hb hby at_127) rfl (XT.ii_ne_f hc127_96) ?_
          show Steps p.tables e below (T94.setTop (mkF m 130 #[.val (.long q1), .second, .val (.long q2), .second, .val (.int p3), .val (.int (p3 &&& (63 : Int32))), .val (.long ((1 : Int64) <<< ((p3 &&& (63 : Int32)) &&& 0x3f).toInt64)), .second, .val (.int (bI (¬ ((((p3.toUInt32 >>> ((6 : Int32) &&& 31).toUInt32).toInt32) &&& (1 : Int32)) = (0 : Int32))))), .val (.ref b7), .val (.ref b14), .val (.ref b72), .val (.int (own_hash q1 q2)), .val (.int (bI ((own_hash q1 q2) = (own_hash q1 q2)))), .unset, .unset] [])) _
          refine XS.iconst X94.here hx rfl (hb hby at_130) ?_
          show Steps p.tables e below (T94.setTop (mkF m 131 #[.val (.long q1), .second, .val (.long q2), .second, .val (.int p3), .val (.int (p3 &&& (63 : Int32))), .val (.long ((1 : Int64) <<< ((p3 &&& (63 : Int32)) &&& 0x3f).toInt64)), .second, .val (.int (bI (¬ ((((p3.toUInt32 >>> ((6 : Int32) &&& 31).toUInt32).toInt32) &&& (1 : Int32)) = (0 : Int32))))), .val (.ref b7), .val (.ref b14), .val (.ref b72), .val (.int (own_hash q1 q2)), .val (.int (bI ((own_hash q1 q2) = (own_hash q1 q2)))), .unset, .unset] [(.int (1 : Int32))])) _
          refine XS.goto X94.here hx rfl (pc0 := 131) (pc' := 135) rfl (hb hby at_131) (by decide) (by decide) ?_
          show Steps p.tables e below (T94.setTop (mkF m 135 #[.val (.long q1), .second, .val (.long q2), .second, .val (.int p3), .val (.int (p3 &&& (63 : Int32))), .val (.long ((1 : Int64) <<< ((p3 &&& (63 : Int32)) &&& 0x3f).toInt64)), .second, .val (.int (bI (¬ ((((p3.toUInt32 >>> ((6 : Int32) &&& 31).toUInt32).toInt32) &&& (1 : Int32)) = (0 : Int32))))), .val (.ref b7), .val (.ref b14), .val (.ref b72), .val (.int (own_hash q1 q2)), .val (.int (bI ((own_hash q1 q2) = (own_hash q1 q2)))), .unset, .unset] [(.int (1 : Int32))])) _
          exact kk
        · skip
          refine ⟨T94, _, X94, N94, hh94, fun tgt kk => ?_⟩
          have kq99 : ((.int (bI (((q1 = q1) ∧ (q2 = q2)) ∧ ((own_hash q1 q2) = (own_hash q1 q2))))) : Value) = (.int (0 : Int32)) := ((congrArg Value.int (bI_iff (and_iff_right hc117_92))).trans (congrArg Value.int (bI_f hc127_96)))
          rw [kq99] at kk
          refine pre95 tgt ?_
          refine XS.icmpYes X94.here hx rfl (pc0 := 127) (pc' := 134) rfl (hb hby at_127) rfl (XT.ii_ne_t hc127_96) (by decide) (by decide) ?_
          show Steps p.tables e below (T94.setTop (mkF m 134 #[.val (.long q1), .second, .val (.long q2), .second, .val (.int p3), .val (.int (p3 &&& (63 : Int32))), .val (.long ((1 : Int64) <<< ((p3 &&& (63 : Int32)) &&& 0x3f).toInt64)), .second, .val (.int (bI (¬ ((((p3.toUInt32 >>> ((6 : Int32) &&& 31).toUInt32).toInt32) &&& (1 : Int32)) = (0 : Int32))))), .val (.ref b7), .val (.ref b14), .val (.ref b72), .val (.int (own_hash q1 q2)), .val (.int (bI ((own_hash q1 q2) = (own_hash q1 q2)))), .unset, .unset] [])) _
          refine XS.iconst X94.here hx rfl (hb hby at_134) ?_
          show Steps p.tables e below (T94.setTop (mkF m 135 #[.val (.long q1), .second, .val (.long q2), .second, .val (.int p3), .val (.int (p3 &&& (63 : Int32))), .val (.long ((1 : Int64) <<< ((p3 &&& (63 : Int32)) &&& 0x3f).toInt64)), .second, .val (.int (bI (¬ ((((p3.toUInt32 >>> ((6 : Int32) &&& 31).toUInt32).toInt32) &&& (1 : Int32)) = (0 : Int32))))), .val (.ref b7), .val (.ref b14), .val (.ref b72), .val (.int (own_hash q1 q2)), .val (.int (bI ((own_hash q1 q2) = (own_hash q1 q2)))), .unset, .unset] [(.int (0 : Int32))])) _
          exact kk
      · skip
        refine ⟨T90, _, X90, N90, hh90, fun tgt kk => ?_⟩
        have kq100 : ((.int (bI (((q1 = q1) ∧ (q2 = q2)) ∧ ((own_hash q1 q2) = (own_hash q1 q2))))) : Value) = (.int (0 : Int32)) := (congrArg Value.int (bI_f (fun q => hc117_92 q.1)))
        rw [kq100] at kk
        refine pre91 tgt ?_
        refine XS.ifYes X90.here hx rfl (pc0 := 117) (pc' := 134) rfl (hb hby at_117) rfl (bB_eq_t hc117_92) (by decide) (by decide) ?_
        show Steps p.tables e below (T90.setTop (mkF m 134 #[.val (.long q1), .second, .val (.long q2), .second, .val (.int p3), .val (.int (p3 &&& (63 : Int32))), .val (.long ((1 : Int64) <<< ((p3 &&& (63 : Int32)) &&& 0x3f).toInt64)), .second, .val (.int (bI (¬ ((((p3.toUInt32 >>> ((6 : Int32) &&& 31).toUInt32).toInt32) &&& (1 : Int32)) = (0 : Int32))))), .val (.ref b7), .val (.ref b14), .val (.ref b72), .val (.int (own_hash q1 q2)), .val (.int (bI ((own_hash q1 q2) = (own_hash q1 q2)))), .unset, .unset] [])) _
        refine XS.iconst X90.here hx rfl (hb hby at_134) ?_
        show Steps p.tables e below (T90.setTop (mkF m 135 #[.val (.long q1), .second, .val (.long q2), .second, .val (.int p3), .val (.int (p3 &&& (63 : Int32))), .val (.long ((1 : Int64) <<< ((p3 &&& (63 : Int32)) &&& 0x3f).toInt64)), .second, .val (.int (bI (¬ ((((p3.toUInt32 >>> ((6 : Int32) &&& 31).toUInt32).toInt32) &&& (1 : Int32)) = (0 : Int32))))), .val (.ref b7), .val (.ref b14), .val (.ref b72), .val (.int (own_hash q1 q2)), .val (.int (bI ((own_hash q1 q2) = (own_hash q1 q2)))), .unset, .unset] [(.int (0 : Int32))])) _
        exact kk
    have pre101 : ∀ tgt, Steps p.tables e below (T97.setTop (mkF m 139 #[.val (.long q1), .second, .val (.long q2), .second, .val (.int p3), .val (.int (p3 &&& (63 : Int32))), .val (.long ((1 : Int64) <<< ((p3 &&& (63 : Int32)) &&& 0x3f).toInt64)), .second, .val (.int (bI (¬ ((((p3.toUInt32 >>> ((6 : Int32) &&& 31).toUInt32).toInt32) &&& (1 : Int32)) = (0 : Int32))))), .val (.ref b7), .val (.ref b14), .val (.ref b72), .val (.int (own_hash q1 q2)), .val (.int (bI ((own_hash q1 q2) = (own_hash q1 q2)))), .val (.int (bI (((q1 = q1) ∧ (q2 = q2)) ∧ ((own_hash q1 q2) = (own_hash q1 q2))))), .unset] [(.ref b72)])) tgt → Steps p.tables e below (s₁.setTop (entryFrame m #[(.long q1), (.long q2), (.int p3)] maxLocals)) tgt := by
      intro tgt kk
      refine pre97 tgt ?_
      refine XS.istore X97.here hx rfl (hb hby at_135) rfl (l' := #[.val (.long q1), .second, .val (.long q2), .second, .val (.int p3), .val (.int (p3 &&& (63 : Int32))), .val (.long ((1 : Int64) <<< ((p3 &&& (63 : Int32)) &&& 0x3f).toInt64)), .second, .val (.int (bI (¬ ((((p3.toUInt32 >>> ((6 : Int32) &&& 31).toUInt32).toInt32) &&& (1 : Int32)) = (0 : Int32))))), .val (.ref b7), .val (.ref b14), .val (.ref b72), .val (.int (own_hash q1 q2)), .val (.int (bI ((own_hash q1 q2) = (own_hash q1 q2)))), .val (.int (bI (((q1 = q1) ∧ (q2 = q2)) ∧ ((own_hash q1 q2) = (own_hash q1 q2))))), .unset]) rfl ?_
      show Steps p.tables e below (T97.setTop (mkF m 137 #[.val (.long q1), .second, .val (.long q2), .second, .val (.int p3), .val (.int (p3 &&& (63 : Int32))), .val (.long ((1 : Int64) <<< ((p3 &&& (63 : Int32)) &&& 0x3f).toInt64)), .second, .val (.int (bI (¬ ((((p3.toUInt32 >>> ((6 : Int32) &&& 31).toUInt32).toInt32) &&& (1 : Int32)) = (0 : Int32))))), .val (.ref b7), .val (.ref b14), .val (.ref b72), .val (.int (own_hash q1 q2)), .val (.int (bI ((own_hash q1 q2) = (own_hash q1 q2)))), .val (.int (bI (((q1 = q1) ∧ (q2 = q2)) ∧ ((own_hash q1 q2) = (own_hash q1 q2))))), .unset] [])) _
      refine XS.aload X97.here hx rfl (hb hby at_137) rfl rfl ?_
      show Steps p.tables e below (T97.setTop (mkF m 139 #[.val (.long q1), .second, .val (.long q2), .second, .val (.int p3), .val (.int (p3 &&& (63 : Int32))), .val (.long ((1 : Int64) <<< ((p3 &&& (63 : Int32)) &&& 0x3f).toInt64)), .second, .val (.int (bI (¬ ((((p3.toUInt32 >>> ((6 : Int32) &&& 31).toUInt32).toInt32) &&& (1 : Int32)) = (0 : Int32))))), .val (.ref b7), .val (.ref b14), .val (.ref b72), .val (.int (own_hash q1 q2)), .val (.int (bI ((own_hash q1 q2) = (own_hash q1 q2)))), .val (.int (bI (((q1 = q1) ∧ (q2 = q2)) ∧ ((own_hash q1 q2) = (own_hash q1 q2))))), .unset] [(.ref b72)])) _
      exact kk
    obtain ⟨cq102, kq102, q102a, q102b, q102c⟩ := isOf hZ e97 E_b72
    obtain ⟨_, _, ⟨T102, L102, k102, n102⟩, -, X102, ⟨Lc102, hQ102, l102, y102, z102⟩, st102⟩ := X97.virtualBack hx (y := (⟨"com/example/postie/postie/store/MessageId", "hashCode", "()I"⟩ : MethodName)) (z := (⟨"com/example/postie/postie/store/MessageId", "hashCode", "()I"⟩ : MethodName)) hown (mvT hZ (hw _ (List.mem_of_getElem? (i := 13) rfl))) (mvT hZ (hw _ (List.mem_of_getElem? (i := 14) rfl))) (notFace_of_selects (args := #[]) (mvT hZ (hw _ (List.mem_of_getElem? (i := 16) rfl)))) (mvT hZ (hw _ (List.mem_of_getElem? (i := 16) rfl))) (mvT hZ (hw _ (List.mem_of_getElem? (i := 15) rfl))) (by decide) (backOf (W := 0) (rmH l Z a0 hw [] b72 (q1) ((q2 ^^^ ((1 : Int64) <<< ((p3 &&& (63 : Int32)) &&& 0x3f).toInt64))) T78.heap n0 Zs79 F_high_b72 F_low_b72) hZ (hw _ (List.mem_of_getElem? (i := 17) rfl)) (hw _ (List.mem_of_getElem? (i := 2) rfl)) (by decide) (by decide)) q102a q102c (g := (mkF m 139 #[.val (.long q1), .second, .val (.long q2), .second, .val (.int p3), .val (.int (p3 &&& (63 : Int32))), .val (.long ((1 : Int64) <<< ((p3 &&& (63 : Int32)) &&& 0x3f).toInt64)), .second, .val (.int (bI (¬ ((((p3.toUInt32 >>> ((6 : Int32) &&& 31).toUInt32).toInt32) &&& (1 : Int32)) = (0 : Int32))))), .val (.ref b7), .val (.ref b14), .val (.ref b72), .val (.int (own_hash q1 q2)), .val (.int (bI ((own_hash q1 q2) = (own_hash q1 q2)))), .val (.int (bI (((q1 = q1) ∧ (q2 = q2)) ∧ ((own_hash q1 q2) = (own_hash q1 q2))))), .unset] [(.ref b72)])) rfl (by rw [hml]; rfl) (Steps.refl _) (argsL := []) (rest := []) (lenOf pd___I rfl) rfl (by show 2 * 0 + _ ≤ _; exact Nat.le_of_eq rfl) (hb hby at_139) (fun _ _ => ⟨rfl, e97, (by decide : 3 + 0 ≤ _), (by decide : 6 + 0 ≤ _)⟩)
    dsimp only [Pt.U, Pt.locs, Pt.cells, Pt.slots] at X102 l102 y102 z102 st102 hQ102
    subst l102 y102 z102
    obtain ⟨rfl, N102q, hh102⟩ := hQ102
    have N102 := Fr.app N97 N102q
    have pre103 : ∀ tgt, Steps p.tables e below (T102.setTop (mkF m 144 #[.val (.long q1), .second, .val (.long q2), .second, .val (.int p3), .val (.int (p3 &&& (63 : Int32))), .val (.long ((1 : Int64) <<< ((p3 &&& (63 : Int32)) &&& 0x3f).toInt64)), .second, .val (.int (bI (¬ ((((p3.toUInt32 >>> ((6 : Int32) &&& 31).toUInt32).toInt32) &&& (1 : Int32)) = (0 : Int32))))), .val (.ref b7), .val (.ref b14), .val (.ref b72), .val (.int (own_hash q1 q2)), .val (.int (bI ((own_hash q1 q2) = (own_hash q1 q2)))), .val (.int (bI (((q1 = q1) ∧ (q2 = q2)) ∧ ((own_hash q1 q2) = (own_hash q1 q2))))), .unset] [(.int (own_hash q1 q2)), (.int (own_hash q1 (q2 ^^^ ((1 : Int64) <<< ((p3 &&& (63 : Int32)) &&& 0x3f).toInt64))))])) tgt → Steps p.tables e below (s₁.setTop (entryFrame m #[(.long q1), (.long q2), (.int p3)] maxLocals)) tgt := by
      intro tgt kk
      refine pre101 tgt ?_
      refine st102.trans ?_
      show Steps p.tables e below (T102.setTop (mkF m 142 #[.val (.long q1), .second, .val (.long q2), .second, .val (.int p3), .val (.int (p3 &&& (63 : Int32))), .val (.long ((1 : Int64) <<< ((p3 &&& (63 : Int32)) &&& 0x3f).toInt64)), .second, .val (.int (bI (¬ ((((p3.toUInt32 >>> ((6 : Int32) &&& 31).toUInt32).toInt32) &&& (1 : Int32)) = (0 : Int32))))), .val (.ref b7), .val (.ref b14), .val (.ref b72), .val (.int (own_hash q1 q2)), .val (.int (bI ((own_hash q1 q2) = (own_hash q1 q2)))), .val (.int (bI (((q1 = q1) ∧ (q2 = q2)) ∧ ((own_hash q1 q2) = (own_hash q1 q2))))), .unset] [(.int (own_hash q1 (q2 ^^^ ((1 : Int64) <<< ((p3 &&& (63 : Int32)) &&& 0x3f).toInt64))))])) _
      refine XS.iload X102.here hx rfl (hb hby at_142) rfl ?_
      show Steps p.tables e below (T102.setTop (mkF m 144 #[.val (.long q1), .second, .val (.long q2), .second, .val (.int p3), .val (.int (p3 &&& (63 : Int32))), .val (.long ((1 : Int64) <<< ((p3 &&& (63 : Int32)) &&& 0x3f).toInt64)), .second, .val (.int (bI (¬ ((((p3.toUInt32 >>> ((6 : Int32) &&& 31).toUInt32).toInt32) &&& (1 : Int32)) = (0 : Int32))))), .val (.ref b7), .val (.ref b14), .val (.ref b72), .val (.int (own_hash q1 q2)), .val (.int (bI ((own_hash q1 q2) = (own_hash q1 q2)))), .val (.int (bI (((q1 = q1) ∧ (q2 = q2)) ∧ ((own_hash q1 q2) = (own_hash q1 q2))))), .unset] [(.int (own_hash q1 q2)), (.int (own_hash q1 (q2 ^^^ ((1 : Int64) <<< ((p3 &&& (63 : Int32)) &&& 0x3f).toInt64))))])) _
      exact kk
    obtain ⟨T105, lo105, X105, N105, e105, pre105⟩ : ∃ (T' : State) (lo : List Loc), Stand p l e room_1 s m #[(.long q1), (.long q2), (.int p3)] below meth c T' lo 3 6 ∧ Fr n0 lo ∧ T'.heap = T78.heap ∧ ∀ tgt, Steps p.tables e below (T'.setTop (mkF m 152 #[.val (.long q1), .second, .val (.long q2), .second, .val (.int p3), .val (.int (p3 &&& (63 : Int32))), .val (.long ((1 : Int64) <<< ((p3 &&& (63 : Int32)) &&& 0x3f).toInt64)), .second, .val (.int (bI (¬ ((((p3.toUInt32 >>> ((6 : Int32) &&& 31).toUInt32).toInt32) &&& (1 : Int32)) = (0 : Int32))))), .val (.ref b7), .val (.ref b14), .val (.ref b72), .val (.int (own_hash q1 q2)), .val (.int (bI ((own_hash q1 q2) = (own_hash q1 q2)))), .val (.int (bI (((q1 = q1) ∧ (q2 = q2)) ∧ ((own_hash q1 q2) = (own_hash q1 q2))))), .unset] [(.int (bI (¬ ((own_hash q1 (q2 ^^^ ((1 : Int64) <<< ((p3 &&& (63 : Int32)) &&& 0x3f).toInt64))) = (own_hash q1 q2)))))])) tgt → Steps p.tables e below (s₁.setTop (entryFrame m #[(.long q1), (.long q2), (.int p3)] maxLocals)) tgt := by
      by_cases hc144_104 : (own_hash q1 (q2 ^^^ ((1 : Int64) <<< ((p3 &&& (63 : Int32)) &&& 0x3f).toInt64))) = (own_hash q1 q2)
      · skip
        refine ⟨T102, _, X102, N102, hh102, fun tgt kk => ?_⟩
        have kq106 : ((.int (bI (¬ ((own_hash q1 (q2 ^^^ ((1 : Int64) <<< ((p3 &&& (63 : Int32)) &&& 0x3f).toInt64))) = (own_hash q1 q2))))) : Value) = (.int (0 : Int32)) := (congrArg Value.int (bI_f (not_not_intro hc144_104)))
        rw [kq106] at kk
        refine pre103 tgt ?_
        refine XS.icmpYes X102.here hx rfl (pc0 := 144) (pc' := 151) rfl (hb hby at_144) rfl (XT.ii_eq_t hc144_104) (by decide) (by decide) ?_
        show Steps p.tables e below (T102.setTop (mkF m 151 #[.val (.long q1), .second, .val (.long q2), .second, .val (.int p3), .val (.int (p3 &&& (63 : Int32))), .val (.long ((1 : Int64) <<< ((p3 &&& (63 : Int32)) &&& 0x3f).toInt64)), .second, .val (.int (bI (¬ ((((p3.toUInt32 >>> ((6 : Int32) &&& 31).toUInt32).toInt32) &&& (1 : Int32)) = (0 : Int32))))), .val (.ref b7), .val (.ref b14), .val (.ref b72), .val (.int (own_hash q1 q2)), .val (.int (bI ((own_hash q1 q2) = (own_hash q1 q2)))), .val (.int (bI (((q1 = q1) ∧ (q2 = q2)) ∧ ((own_hash q1 q2) = (own_hash q1 q2))))), .unset] [])) _
        refine XS.iconst X102.here hx rfl (hb hby at_151) ?_
        show Steps p.tables e below (T102.setTop (mkF m 152 #[.val (.long q1), .second, .val (.long q2), .second, .val (.int p3), .val (.int (p3 &&& (63 : Int32))), .val (.long ((1 : Int64) <<< ((p3 &&& (63 : Int32)) &&& 0x3f).toInt64)), .second, .val (.int (bI (¬ ((((p3.toUInt32 >>> ((6 : Int32) &&& 31).toUInt32).toInt32) &&& (1 : Int32)) = (0 : Int32))))), .val (.ref b7), .val (.ref b14), .val (.ref b72), .val (.int (own_hash q1 q2)), .val (.int (bI ((own_hash q1 q2) = (own_hash q1 q2)))), .val (.int (bI (((q1 = q1) ∧ (q2 = q2)) ∧ ((own_hash q1 q2) = (own_hash q1 q2))))), .unset] [(.int (0 : Int32))])) _
        exact kk
      · skip
        refine ⟨T102, _, X102, N102, hh102, fun tgt kk => ?_⟩
        have kq107 : ((.int (bI (¬ ((own_hash q1 (q2 ^^^ ((1 : Int64) <<< ((p3 &&& (63 : Int32)) &&& 0x3f).toInt64))) = (own_hash q1 q2))))) : Value) = (.int (1 : Int32)) := (congrArg Value.int (bI_t hc144_104))
        rw [kq107] at kk
        refine pre103 tgt ?_
        refine XS.icmpNo X102.here hx rfl (hb hby at_144) rfl (XT.ii_eq_f hc144_104) ?_
        show Steps p.tables e below (T102.setTop (mkF m 147 #[.val (.long q1), .second, .val (.long q2), .second, .val (.int p3), .val (.int (p3 &&& (63 : Int32))), .val (.long ((1 : Int64) <<< ((p3 &&& (63 : Int32)) &&& 0x3f).toInt64)), .second, .val (.int (bI (¬ ((((p3.toUInt32 >>> ((6 : Int32) &&& 31).toUInt32).toInt32) &&& (1 : Int32)) = (0 : Int32))))), .val (.ref b7), .val (.ref b14), .val (.ref b72), .val (.int (own_hash q1 q2)), .val (.int (bI ((own_hash q1 q2) = (own_hash q1 q2)))), .val (.int (bI (((q1 = q1) ∧ (q2 = q2)) ∧ ((own_hash q1 q2) = (own_hash q1 q2))))), .unset] [])) _
        refine XS.iconst X102.here hx rfl (hb hby at_147) ?_
        show Steps p.tables e below (T102.setTop (mkF m 148 #[.val (.long q1), .second, .val (.long q2), .second, .val (.int p3), .val (.int (p3 &&& (63 : Int32))), .val (.long ((1 : Int64) <<< ((p3 &&& (63 : Int32)) &&& 0x3f).toInt64)), .second, .val (.int (bI (¬ ((((p3.toUInt32 >>> ((6 : Int32) &&& 31).toUInt32).toInt32) &&& (1 : Int32)) = (0 : Int32))))), .val (.ref b7), .val (.ref b14), .val (.ref b72), .val (.int (own_hash q1 q2)), .val (.int (bI ((own_hash q1 q2) = (own_hash q1 q2)))), .val (.int (bI (((q1 = q1) ∧ (q2 = q2)) ∧ ((own_hash q1 q2) = (own_hash q1 q2))))), .unset] [(.int (1 : Int32))])) _
        refine XS.goto X102.here hx rfl (pc0 := 148) (pc' := 152) rfl (hb hby at_148) (by decide) (by decide) ?_
        show Steps p.tables e below (T102.setTop (mkF m 152 #[.val (.long q1), .second, .val (.long q2), .second, .val (.int p3), .val (.int (p3 &&& (63 : Int32))), .val (.long ((1 : Int64) <<< ((p3 &&& (63 : Int32)) &&& 0x3f).toInt64)), .second, .val (.int (bI (¬ ((((p3.toUInt32 >>> ((6 : Int32) &&& 31).toUInt32).toInt32) &&& (1 : Int32)) = (0 : Int32))))), .val (.ref b7), .val (.ref b14), .val (.ref b72), .val (.int (own_hash q1 q2)), .val (.int (bI ((own_hash q1 q2) = (own_hash q1 q2)))), .val (.int (bI (((q1 = q1) ∧ (q2 = q2)) ∧ ((own_hash q1 q2) = (own_hash q1 q2))))), .unset] [(.int (1 : Int32))])) _
        exact kk
    have pre108 : ∀ tgt, Steps p.tables e below (T105.setTop (mkF m 156 #[.val (.long q1), .second, .val (.long q2), .second, .val (.int p3), .val (.int (p3 &&& (63 : Int32))), .val (.long ((1 : Int64) <<< ((p3 &&& (63 : Int32)) &&& 0x3f).toInt64)), .second, .val (.int (bI (¬ ((((p3.toUInt32 >>> ((6 : Int32) &&& 31).toUInt32).toInt32) &&& (1 : Int32)) = (0 : Int32))))), .val (.ref b7), .val (.ref b14), .val (.ref b72), .val (.int (own_hash q1 q2)), .val (.int (bI ((own_hash q1 q2) = (own_hash q1 q2)))), .val (.int (bI (((q1 = q1) ∧ (q2 = q2)) ∧ ((own_hash q1 q2) = (own_hash q1 q2))))), .val (.int (bI (¬ ((own_hash q1 (q2 ^^^ ((1 : Int64) <<< ((p3 &&& (63 : Int32)) &&& 0x3f).toInt64))) = (own_hash q1 q2)))))] [(.int (bI ((own_hash q1 q2) = (own_hash q1 q2))))])) tgt → Steps p.tables e below (s₁.setTop (entryFrame m #[(.long q1), (.long q2), (.int p3)] maxLocals)) tgt := by
      intro tgt kk
      refine pre105 tgt ?_
      refine XS.istore X105.here hx rfl (hb hby at_152) rfl (l' := #[.val (.long q1), .second, .val (.long q2), .second, .val (.int p3), .val (.int (p3 &&& (63 : Int32))), .val (.long ((1 : Int64) <<< ((p3 &&& (63 : Int32)) &&& 0x3f).toInt64)), .second, .val (.int (bI (¬ ((((p3.toUInt32 >>> ((6 : Int32) &&& 31).toUInt32).toInt32) &&& (1 : Int32)) = (0 : Int32))))), .val (.ref b7), .val (.ref b14), .val (.ref b72), .val (.int (own_hash q1 q2)), .val (.int (bI ((own_hash q1 q2) = (own_hash q1 q2)))), .val (.int (bI (((q1 = q1) ∧ (q2 = q2)) ∧ ((own_hash q1 q2) = (own_hash q1 q2))))), .val (.int (bI (¬ ((own_hash q1 (q2 ^^^ ((1 : Int64) <<< ((p3 &&& (63 : Int32)) &&& 0x3f).toInt64))) = (own_hash q1 q2)))))]) rfl ?_
      show Steps p.tables e below (T105.setTop (mkF m 154 #[.val (.long q1), .second, .val (.long q2), .second, .val (.int p3), .val (.int (p3 &&& (63 : Int32))), .val (.long ((1 : Int64) <<< ((p3 &&& (63 : Int32)) &&& 0x3f).toInt64)), .second, .val (.int (bI (¬ ((((p3.toUInt32 >>> ((6 : Int32) &&& 31).toUInt32).toInt32) &&& (1 : Int32)) = (0 : Int32))))), .val (.ref b7), .val (.ref b14), .val (.ref b72), .val (.int (own_hash q1 q2)), .val (.int (bI ((own_hash q1 q2) = (own_hash q1 q2)))), .val (.int (bI (((q1 = q1) ∧ (q2 = q2)) ∧ ((own_hash q1 q2) = (own_hash q1 q2))))), .val (.int (bI (¬ ((own_hash q1 (q2 ^^^ ((1 : Int64) <<< ((p3 &&& (63 : Int32)) &&& 0x3f).toInt64))) = (own_hash q1 q2)))))] [])) _
      refine XS.iload X105.here hx rfl (hb hby at_154) rfl ?_
      show Steps p.tables e below (T105.setTop (mkF m 156 #[.val (.long q1), .second, .val (.long q2), .second, .val (.int p3), .val (.int (p3 &&& (63 : Int32))), .val (.long ((1 : Int64) <<< ((p3 &&& (63 : Int32)) &&& 0x3f).toInt64)), .second, .val (.int (bI (¬ ((((p3.toUInt32 >>> ((6 : Int32) &&& 31).toUInt32).toInt32) &&& (1 : Int32)) = (0 : Int32))))), .val (.ref b7), .val (.ref b14), .val (.ref b72), .val (.int (own_hash q1 q2)), .val (.int (bI ((own_hash q1 q2) = (own_hash q1 q2)))), .val (.int (bI (((q1 = q1) ∧ (q2 = q2)) ∧ ((own_hash q1 q2) = (own_hash q1 q2))))), .val (.int (bI (¬ ((own_hash q1 (q2 ^^^ ((1 : Int64) <<< ((p3 &&& (63 : Int32)) &&& 0x3f).toInt64))) = (own_hash q1 q2)))))] [(.int (bI ((own_hash q1 q2) = (own_hash q1 q2))))])) _
      exact kk
    obtain ⟨T114, lo114, X114, N114, e114, pre114⟩ : ∃ (T' : State) (lo : List Loc), Stand p l e room_1 s m #[(.long q1), (.long q2), (.int p3)] below meth c T' lo 3 6 ∧ Fr n0 lo ∧ T'.heap = T78.heap ∧ ∀ tgt, Steps p.tables e below (T'.setTop (mkF m 174 #[.val (.long q1), .second, .val (.long q2), .second, .val (.int p3), .val (.int (p3 &&& (63 : Int32))), .val (.long ((1 : Int64) <<< ((p3 &&& (63 : Int32)) &&& 0x3f).toInt64)), .second, .val (.int (bI (¬ ((((p3.toUInt32 >>> ((6 : Int32) &&& 31).toUInt32).toInt32) &&& (1 : Int32)) = (0 : Int32))))), .val (.ref b7), .val (.ref b14), .val (.ref b72), .val (.int (own_hash q1 q2)), .val (.int (bI ((own_hash q1 q2) = (own_hash q1 q2)))), .val (.int (bI (((q1 = q1) ∧ (q2 = q2)) ∧ ((own_hash q1 q2) = (own_hash q1 q2))))), .val (.int (bI (¬ ((own_hash q1 (q2 ^^^ ((1 : Int64) <<< ((p3 &&& (63 : Int32)) &&& 0x3f).toInt64))) = (own_hash q1 q2)))))] [(.int (bI (((own_hash q1 q2) = (own_hash q1 q2)) ∧ ((((q1 = q1) ∧ (q2 = q2)) ∧ ((own_hash q1 q2) = (own_hash q1 q2))) ∧ (¬ ((own_hash q1 (q2 ^^^ ((1 : Int64) <<< ((p3 &&& (63 : Int32)) &&& 0x3f).toInt64))) = (own_hash q1 q2)))))))])) tgt → Steps p.tables e below (s₁.setTop (entryFrame m #[(.long q1), (.long q2), (.int p3)] maxLocals)) tgt := by
      by_cases hc156_109 : (own_hash q1 q2) = (own_hash q1 q2)
      · skip
        have pre110 : ∀ tgt, Steps p.tables e below (T105.setTop (mkF m 161 #[.val (.long q1), .second, .val (.long q2), .second, .val (.int p3), .val (.int (p3 &&& (63 : Int32))), .val (.long ((1 : Int64) <<< ((p3 &&& (63 : Int32)) &&& 0x3f).toInt64)), .second, .val (.int (bI (¬ ((((p3.toUInt32 >>> ((6 : Int32) &&& 31).toUInt32).toInt32) &&& (1 : Int32)) = (0 : Int32))))), .val (.ref b7), .val (.ref b14), .val (.ref b72), .val (.int (own_hash q1 q2)), .val (.int (bI ((own_hash q1 q2) = (own_hash q1 q2)))), .val (.int (bI (((q1 = q1) ∧ (q2 = q2)) ∧ ((own_hash q1 q2) = (own_hash q1 q2))))), .val (.int (bI (¬ ((own_hash q1 (q2 ^^^ ((1 : Int64) <<< ((p3 &&& (63 : Int32)) &&& 0x3f).toInt64))) = (own_hash q1 q2)))))] [(.int (bI (((q1 = q1) ∧ (q2 = q2)) ∧ ((own_hash q1 q2) = (own_hash q1 q2)))))])) tgt → Steps p.tables e below (s₁.setTop (entryFrame m #[(.long q1), (.long q2), (.int p3)] maxLocals)) tgt := by
          intro tgt kk
          refine pre108 tgt ?_
          refine XS.ifNo X105.here hx rfl (hb hby at_156) rfl (bB_eq_f hc156_109) ?_
          show Steps p.tables e below (T105.setTop (mkF m 159 #[.val (.long q1), .second, .val (.long q2), .second, .val (.int p3), .val (.int (p3 &&& (63 : Int32))), .val (.long ((1 : Int64) <<< ((p3 &&& (63 : Int32)) &&& 0x3f).toInt64)), .second, .val (.int (bI (¬ ((((p3.toUInt32 >>> ((6 : Int32) &&& 31).toUInt32).toInt32) &&& (1 : Int32)) = (0 : Int32))))), .val (.ref b7), .val (.ref b14), .val (.ref b72), .val (.int (own_hash q1 q2)), .val (.int (bI ((own_hash q1 q2) = (own_hash q1 q2)))), .val (.int (bI (((q1 = q1) ∧ (q2 = q2)) ∧ ((own_hash q1 q2) = (own_hash q1 q2))))), .val (.int (bI (¬ ((own_hash q1 (q2 ^^^ ((1 : Int64) <<< ((p3 &&& (63 : Int32)) &&& 0x3f).toInt64))) = (own_hash q1 q2)))))] [])) _
          refine XS.iload X105.here hx rfl (hb hby at_159) rfl ?_
          show Steps p.tables e below (T105.setTop (mkF m 161 #[.val (.long q1), .second, .val (.long q2), .second, .val (.int p3), .val (.int (p3 &&& (63 : Int32))), .val (.long ((1 : Int64) <<< ((p3 &&& (63 : Int32)) &&& 0x3f).toInt64)), .second, .val (.int (bI (¬ ((((p3.toUInt32 >>> ((6 : Int32) &&& 31).toUInt32).toInt32) &&& (1 : Int32)) = (0 : Int32))))), .val (.ref b7), .val (.ref b14), .val (.ref b72), .val (.int (own_hash q1 q2)), .val (.int (bI ((own_hash q1 q2) = (own_hash q1 q2)))), .val (.int (bI (((q1 = q1) ∧ (q2 = q2)) ∧ ((own_hash q1 q2) = (own_hash q1 q2))))), .val (.int (bI (¬ ((own_hash q1 (q2 ^^^ ((1 : Int64) <<< ((p3 &&& (63 : Int32)) &&& 0x3f).toInt64))) = (own_hash q1 q2)))))] [(.int (bI (((q1 = q1) ∧ (q2 = q2)) ∧ ((own_hash q1 q2) = (own_hash q1 q2)))))])) _
          exact kk
        by_cases hc161_111 : ((q1 = q1) ∧ (q2 = q2)) ∧ ((own_hash q1 q2) = (own_hash q1 q2))
        · skip
          have pre112 : ∀ tgt, Steps p.tables e below (T105.setTop (mkF m 166 #[.val (.long q1), .second, .val (.long q2), .second, .val (.int p3), .val (.int (p3 &&& (63 : Int32))), .val (.long ((1 : Int64) <<< ((p3 &&& (63 : Int32)) &&& 0x3f).toInt64)), .second, .val (.int (bI (¬ ((((p3.toUInt32 >>> ((6 : Int32) &&& 31).toUInt32).toInt32) &&& (1 : Int32)) = (0 : Int32))))), .val (.ref b7), .val (.ref b14), .val (.ref b72), .val (.int (own_hash q1 q2)), .val (.int (bI ((own_hash q1 q2) = (own_hash q1 q2)))), .val (.int (bI (((q1 = q1) ∧ (q2 = q2)) ∧ ((own_hash q1 q2) = (own_hash q1 q2))))), .val (.int (bI (¬ ((own_hash q1 (q2 ^^^ ((1 : Int64) <<< ((p3 &&& (63 : Int32)) &&& 0x3f).toInt64))) = (own_hash q1 q2)))))] [(.int (bI (¬ ((own_hash q1 (q2 ^^^ ((1 : Int64) <<< ((p3 &&& (63 : Int32)) &&& 0x3f).toInt64))) = (own_hash q1 q2)))))])) tgt → Steps p.tables e below (s₁.setTop (entryFrame m #[(.long q1), (.long q2), (.int p3)] maxLocals)) tgt := by
            intro tgt kk
            refine pre110 tgt ?_
            refine XS.ifNo X105.here hx rfl (hb hby at_161) rfl (bB_eq_f hc161_111) ?_
            show Steps p.tables e below (T105.setTop (mkF m 164 #[.val (.long q1), .second, .val (.long q2), .second, .val (.int p3), .val (.int (p3 &&& (63 : Int32))), .val (.long ((1 : Int64) <<< ((p3 &&& (63 : Int32)) &&& 0x3f).toInt64)), .second, .val (.int (bI (¬ ((((p3.toUInt32 >>> ((6 : Int32) &&& 31).toUInt32).toInt32) &&& (1 : Int32)) = (0 : Int32))))), .val (.ref b7), .val (.ref b14), .val (.ref b72), .val (.int (own_hash q1 q2)), .val (.int (bI ((own_hash q1 q2) = (own_hash q1 q2)))), .val (.int (bI (((q1 = q1) ∧ (q2 = q2)) ∧ ((own_hash q1 q2) = (own_hash q1 q2))))), .val (.int (bI (¬ ((own_hash q1 (q2 ^^^ ((1 : Int64) <<< ((p3 &&& (63 : Int32)) &&& 0x3f).toInt64))) = (own_hash q1 q2)))))] [])) _
            refine XS.iload X105.here hx rfl (hb hby at_164) rfl ?_
            show Steps p.tables e below (T105.setTop (mkF m 166 #[.val (.long q1), .second, .val (.long q2), .second, .val (.int p3), .val (.int (p3 &&& (63 : Int32))), .val (.long ((1 : Int64) <<< ((p3 &&& (63 : Int32)) &&& 0x3f).toInt64)), .second, .val (.int (bI (¬ ((((p3.toUInt32 >>> ((6 : Int32) &&& 31).toUInt32).toInt32) &&& (1 : Int32)) = (0 : Int32))))), .val (.ref b7), .val (.ref b14), .val (.ref b72), .val (.int (own_hash q1 q2)), .val (.int (bI ((own_hash q1 q2) = (own_hash q1 q2)))), .val (.int (bI (((q1 = q1) ∧ (q2 = q2)) ∧ ((own_hash q1 q2) = (own_hash q1 q2))))), .val (.int (bI (¬ ((own_hash q1 (q2 ^^^ ((1 : Int64) <<< ((p3 &&& (63 : Int32)) &&& 0x3f).toInt64))) = (own_hash q1 q2)))))] [(.int (bI (¬ ((own_hash q1 (q2 ^^^ ((1 : Int64) <<< ((p3 &&& (63 : Int32)) &&& 0x3f).toInt64))) = (own_hash q1 q2)))))])) _
            exact kk
          by_cases hc166_113 : ¬ ((own_hash q1 (q2 ^^^ ((1 : Int64) <<< ((p3 &&& (63 : Int32)) &&& 0x3f).toInt64))) = (own_hash q1 q2))
          · skip
            refine ⟨T105, _, X105, N105, e105, fun tgt kk => ?_⟩
            have kq115 : ((.int (bI (((own_hash q1 q2) = (own_hash q1 q2)) ∧ ((((q1 = q1) ∧ (q2 = q2)) ∧ ((own_hash q1 q2) = (own_hash q1 q2))) ∧ (¬ ((own_hash q1 (q2 ^^^ ((1 : Int64) <<< ((p3 &&& (63 : Int32)) &&& 0x3f).toInt64))) = (own_hash q1 q2))))))) : Value) = (.int (1 : Int32)) := ((congrArg Value.int (bI_iff (and_iff_right hc156_109))).trans ((congrArg Value.int (bI_iff (and_iff_right hc161_111))).trans (congrArg Value.int (bI_t hc166_113))))
            rw [kq115] at kk
            refine pre112 tgt ?_
            refine XS.ifNo X105.here hx rfl (hb hby at_166) rfl (bB_eq_f hc166_113) ?_
            show Steps p.tables e below (T105.setTop (mkF m 169 #[.val (.long q1), .second, .val (.long q2), .second, .val (.int p3), .val (.int (p3 &&& (63 : Int32))), .val (.long ((1 : Int64) <<< ((p3 &&& (63 : Int32)) &&& 0x3f).toInt64)), .second, .val (.int (bI (¬ ((((p3.toUInt32 >>> ((6 : Int32) &&& 31).toUInt32).toInt32) &&& (1 : Int32)) = (0 : Int32))))), .val (.ref b7), .val (.ref b14), .val (.ref b72), .val (.int (own_hash q1 q2)), .val (.int (bI ((own_hash q1 q2) = (own_hash q1 q2)))), .val (.int (bI (((q1 = q1) ∧ (q2 = q2)) ∧ ((own_hash q1 q2) = (own_hash q1 q2))))), .val (.int (bI (¬ ((own_hash q1 (q2 ^^^ ((1 : Int64) <<< ((p3 &&& (63 : Int32)) &&& 0x3f).toInt64))) = (own_hash q1 q2)))))] [])) _
            refine XS.iconst X105.here hx rfl (hb hby at_169) ?_
            show Steps p.tables e below (T105.setTop (mkF m 170 #[.val (.long q1), .second, .val (.long q2), .second, .val (.int p3), .val (.int (p3 &&& (63 : Int32))), .val (.long ((1 : Int64) <<< ((p3 &&& (63 : Int32)) &&& 0x3f).toInt64)), .second, .val (.int (bI (¬ ((((p3.toUInt32 >>> ((6 : Int32) &&& 31).toUInt32).toInt32) &&& (1 : Int32)) = (0 : Int32))))), .val (.ref b7), .val (.ref b14), .val (.ref b72), .val (.int (own_hash q1 q2)), .val (.int (bI ((own_hash q1 q2) = (own_hash q1 q2)))), .val (.int (bI (((q1 = q1) ∧ (q2 = q2)) ∧ ((own_hash q1 q2) = (own_hash q1 q2))))), .val (.int (bI (¬ ((own_hash q1 (q2 ^^^ ((1 : Int64) <<< ((p3 &&& (63 : Int32)) &&& 0x3f).toInt64))) = (own_hash q1 q2)))))] [(.int (1 : Int32))])) _
            refine XS.goto X105.here hx rfl (pc0 := 170) (pc' := 174) rfl (hb hby at_170) (by decide) (by decide) ?_
            show Steps p.tables e below (T105.setTop (mkF m 174 #[.val (.long q1), .second, .val (.long q2), .second, .val (.int p3), .val (.int (p3 &&& (63 : Int32))), .val (.long ((1 : Int64) <<< ((p3 &&& (63 : Int32)) &&& 0x3f).toInt64)), .second, .val (.int (bI (¬ ((((p3.toUInt32 >>> ((6 : Int32) &&& 31).toUInt32).toInt32) &&& (1 : Int32)) = (0 : Int32))))), .val (.ref b7), .val (.ref b14), .val (.ref b72), .val (.int (own_hash q1 q2)), .val (.int (bI ((own_hash q1 q2) = (own_hash q1 q2)))), .val (.int (bI (((q1 = q1) ∧ (q2 = q2)) ∧ ((own_hash q1 q2) = (own_hash q1 q2))))), .val (.int (bI (¬ ((own_hash q1 (q2 ^^^ ((1 : Int64) <<< ((p3 &&& (63 : Int32)) &&& 0x3f).toInt64))) = (own_hash q1 q2)))))] [(.int (1 : Int32))])) _
            exact kk
          · skip
            refine ⟨T105, _, X105, N105, e105, fun tgt kk => ?_⟩
            have kq116 : ((.int (bI (((own_hash q1 q2) = (own_hash q1 q2)) ∧ ((((q1 = q1) ∧ (q2 = q2)) ∧ ((own_hash q1 q2) = (own_hash q1 q2))) ∧ (¬ ((own_hash q1 (q2 ^^^ ((1 : Int64) <<< ((p3 &&& (63 : Int32)) &&& 0x3f).toInt64))) = (own_hash q1 q2))))))) : Value) = (.int (0 : Int32)) := ((congrArg Value.int (bI_iff (and_iff_right hc156_109))).trans ((congrArg Value.int (bI_iff (and_iff_right hc161_111))).trans (congrArg Value.int (bI_f hc166_113))))
            rw [kq116] at kk
            refine pre112 tgt ?_
            refine XS.ifYes X105.here hx rfl (pc0 := 166) (pc' := 173) rfl (hb hby at_166) rfl (bB_eq_t hc166_113) (by decide) (by decide) ?_
            show Steps p.tables e below (T105.setTop (mkF m 173 #[.val (.long q1), .second, .val (.long q2), .second, .val (.int p3), .val (.int (p3 &&& (63 : Int32))), .val (.long ((1 : Int64) <<< ((p3 &&& (63 : Int32)) &&& 0x3f).toInt64)), .second, .val (.int (bI (¬ ((((p3.toUInt32 >>> ((6 : Int32) &&& 31).toUInt32).toInt32) &&& (1 : Int32)) = (0 : Int32))))), .val (.ref b7), .val (.ref b14), .val (.ref b72), .val (.int (own_hash q1 q2)), .val (.int (bI ((own_hash q1 q2) = (own_hash q1 q2)))), .val (.int (bI (((q1 = q1) ∧ (q2 = q2)) ∧ ((own_hash q1 q2) = (own_hash q1 q2))))), .val (.int (bI (¬ ((own_hash q1 (q2 ^^^ ((1 : Int64) <<< ((p3 &&& (63 : Int32)) &&& 0x3f).toInt64))) = (own_hash q1 q2)))))] [])) _
            refine XS.iconst X105.here hx rfl (hb hby at_173) ?_
            show Steps p.tables e below (T105.setTop (mkF m 174 #[.val (.long q1), .second, .val (.long q2), .second, .val (.int p3), .val (.int (p3 &&& (63 : Int32))), .val (.long ((1 : Int64) <<< ((p3 &&& (63 : Int32)) &&& 0x3f).toInt64)), .second, .val (.int (bI (¬ ((((p3.toUInt32 >>> ((6 : Int32) &&& 31).toUInt32).toInt32) &&& (1 : Int32)) = (0 : Int32))))), .val (.ref b7), .val (.ref b14), .val (.ref b72), .val (.int (own_hash q1 q2)), .val (.int (bI ((own_hash q1 q2) = (own_hash q1 q2)))), .val (.int (bI (((q1 = q1) ∧ (q2 = q2)) ∧ ((own_hash q1 q2) = (own_hash q1 q2))))), .val (.int (bI (¬ ((own_hash q1 (q2 ^^^ ((1 : Int64) <<< ((p3 &&& (63 : Int32)) &&& 0x3f).toInt64))) = (own_hash q1 q2)))))] [(.int (0 : Int32))])) _
            exact kk
        · skip
          refine ⟨T105, _, X105, N105, e105, fun tgt kk => ?_⟩
          have kq117 : ((.int (bI (((own_hash q1 q2) = (own_hash q1 q2)) ∧ ((((q1 = q1) ∧ (q2 = q2)) ∧ ((own_hash q1 q2) = (own_hash q1 q2))) ∧ (¬ ((own_hash q1 (q2 ^^^ ((1 : Int64) <<< ((p3 &&& (63 : Int32)) &&& 0x3f).toInt64))) = (own_hash q1 q2))))))) : Value) = (.int (0 : Int32)) := ((congrArg Value.int (bI_iff (and_iff_right hc156_109))).trans (congrArg Value.int (bI_f (fun q => hc161_111 q.1))))
          rw [kq117] at kk
          refine pre110 tgt ?_
          refine XS.ifYes X105.here hx rfl (pc0 := 161) (pc' := 173) rfl (hb hby at_161) rfl (bB_eq_t hc161_111) (by decide) (by decide) ?_
          show Steps p.tables e below (T105.setTop (mkF m 173 #[.val (.long q1), .second, .val (.long q2), .second, .val (.int p3), .val (.int (p3 &&& (63 : Int32))), .val (.long ((1 : Int64) <<< ((p3 &&& (63 : Int32)) &&& 0x3f).toInt64)), .second, .val (.int (bI (¬ ((((p3.toUInt32 >>> ((6 : Int32) &&& 31).toUInt32).toInt32) &&& (1 : Int32)) = (0 : Int32))))), .val (.ref b7), .val (.ref b14), .val (.ref b72), .val (.int (own_hash q1 q2)), .val (.int (bI ((own_hash q1 q2) = (own_hash q1 q2)))), .val (.int (bI (((q1 = q1) ∧ (q2 = q2)) ∧ ((own_hash q1 q2) = (own_hash q1 q2))))), .val (.int (bI (¬ ((own_hash q1 (q2 ^^^ ((1 : Int64) <<< ((p3 &&& (63 : Int32)) &&& 0x3f).toInt64))) = (own_hash q1 q2)))))] [])) _
          refine XS.iconst X105.here hx rfl (hb hby at_173) ?_
          show Steps p.tables e below (T105.setTop (mkF m 174 #[.val (.long q1), .second, .val (.long q2), .second, .val (.int p3), .val (.int (p3 &&& (63 : Int32))), .val (.long ((1 : Int64) <<< ((p3 &&& (63 : Int32)) &&& 0x3f).toInt64)), .second, .val (.int (bI (¬ ((((p3.toUInt32 >>> ((6 : Int32) &&& 31).toUInt32).toInt32) &&& (1 : Int32)) = (0 : Int32))))), .val (.ref b7), .val (.ref b14), .val (.ref b72), .val (.int (own_hash q1 q2)), .val (.int (bI ((own_hash q1 q2) = (own_hash q1 q2)))), .val (.int (bI (((q1 = q1) ∧ (q2 = q2)) ∧ ((own_hash q1 q2) = (own_hash q1 q2))))), .val (.int (bI (¬ ((own_hash q1 (q2 ^^^ ((1 : Int64) <<< ((p3 &&& (63 : Int32)) &&& 0x3f).toInt64))) = (own_hash q1 q2)))))] [(.int (0 : Int32))])) _
          exact kk
      · skip
        refine ⟨T105, _, X105, N105, e105, fun tgt kk => ?_⟩
        have kq118 : ((.int (bI (((own_hash q1 q2) = (own_hash q1 q2)) ∧ ((((q1 = q1) ∧ (q2 = q2)) ∧ ((own_hash q1 q2) = (own_hash q1 q2))) ∧ (¬ ((own_hash q1 (q2 ^^^ ((1 : Int64) <<< ((p3 &&& (63 : Int32)) &&& 0x3f).toInt64))) = (own_hash q1 q2))))))) : Value) = (.int (0 : Int32)) := (congrArg Value.int (bI_f (fun q => hc156_109 q.1)))
        rw [kq118] at kk
        refine pre108 tgt ?_
        refine XS.ifYes X105.here hx rfl (pc0 := 156) (pc' := 173) rfl (hb hby at_156) rfl (bB_eq_t hc156_109) (by decide) (by decide) ?_
        show Steps p.tables e below (T105.setTop (mkF m 173 #[.val (.long q1), .second, .val (.long q2), .second, .val (.int p3), .val (.int (p3 &&& (63 : Int32))), .val (.long ((1 : Int64) <<< ((p3 &&& (63 : Int32)) &&& 0x3f).toInt64)), .second, .val (.int (bI (¬ ((((p3.toUInt32 >>> ((6 : Int32) &&& 31).toUInt32).toInt32) &&& (1 : Int32)) = (0 : Int32))))), .val (.ref b7), .val (.ref b14), .val (.ref b72), .val (.int (own_hash q1 q2)), .val (.int (bI ((own_hash q1 q2) = (own_hash q1 q2)))), .val (.int (bI (((q1 = q1) ∧ (q2 = q2)) ∧ ((own_hash q1 q2) = (own_hash q1 q2))))), .val (.int (bI (¬ ((own_hash q1 (q2 ^^^ ((1 : Int64) <<< ((p3 &&& (63 : Int32)) &&& 0x3f).toInt64))) = (own_hash q1 q2)))))] [])) _
        refine XS.iconst X105.here hx rfl (hb hby at_173) ?_
        show Steps p.tables e below (T105.setTop (mkF m 174 #[.val (.long q1), .second, .val (.long q2), .second, .val (.int p3), .val (.int (p3 &&& (63 : Int32))), .val (.long ((1 : Int64) <<< ((p3 &&& (63 : Int32)) &&& 0x3f).toInt64)), .second, .val (.int (bI (¬ ((((p3.toUInt32 >>> ((6 : Int32) &&& 31).toUInt32).toInt32) &&& (1 : Int32)) = (0 : Int32))))), .val (.ref b7), .val (.ref b14), .val (.ref b72), .val (.int (own_hash q1 q2)), .val (.int (bI ((own_hash q1 q2) = (own_hash q1 q2)))), .val (.int (bI (((q1 = q1) ∧ (q2 = q2)) ∧ ((own_hash q1 q2) = (own_hash q1 q2))))), .val (.int (bI (¬ ((own_hash q1 (q2 ^^^ ((1 : Int64) <<< ((p3 &&& (63 : Int32)) &&& 0x3f).toInt64))) = (own_hash q1 q2)))))] [(.int (0 : Int32))])) _
        exact kk
    obtain ⟨fs, hr, hrun, hended, hW, hsame⟩ := X114.leave (v := some (.int (nar .boolean (bI (((own_hash q1 q2) = (own_hash q1 q2)) ∧ ((((q1 = q1) ∧ (q2 = q2)) ∧ ((own_hash q1 q2) = (own_hash q1 q2))) ∧ (¬ ((own_hash q1 (q2 ^^^ ((1 : Int64) <<< ((p3 &&& (63 : Int32)) &&& 0x3f).toInt64))) = (own_hash q1 q2))))))))) (fun h => by rw [Bd.returns] at h; cases h)
    refine ⟨_, _, pre114 _ ?_, hrun, hended, _, _, rfl, ?_, ⟨_, rfl⟩, hW, hsame.mono (by decide) (by decide)⟩
    · skip
      exact retN X114 hx (t := .boolean) Bd.returns (by simp) (hb hby at_174) hr
    · show Q0 Z q1 q2 p3 h0 n0 _ T114.heap _
      rw [e114]
      exact ⟨bI_one ⟨rfl, ⟨⟨rfl, rfl⟩, rfl⟩, own_flipL q1 q2 p3⟩, N114⟩
set_option maxRecDepth 65536 in
set_option maxHeartbeats 40000000 in
theorem comes_1 {Post : Tables → Env → Array Value → State → Outcome → State → Prop} (hpost : ∀ tb e args s v u, (limb_1_1.after args s (.returned v) u = true ∧ limb_1_2.after args s (.returned v) u = true ∧ True) → FrameEnd s (.returned v) u (Jvm.fieldLocs frame_1_writes args s ++ Jvm.arrayLocs frame_1_arrays args s ++ Jvm.staticLocs frame_1_statics s) 16 128 → Post tb e args s (.returned v) u) :
    ArmFor flags0 classFile x code maxLocals ret World_1 tables_1 room_1 Calls_1 rest_1 Pre_1 Post := by
  intro l hfl _ _ p e ha hc hk s m args below hf hA hF happ hP
  obtain ⟨hcalls, hrest, hpre⟩ := hP
  obtain ⟨-, -, -, hnamed, -, -, -, hat⟩ := (Spec.applies_iff hf).mp happ
  obtain ⟨hg, hn⟩ := and_e (Cond.before_iff.mp (show (Jvm.Cond.and given_1 narrow_1).before args s = true from hpre))
  obtain ⟨hcount, g0⟩ := and_e hg
  obtain ⟨ga0, g1⟩ := and_e g0
  obtain ⟨ga1, g2⟩ := and_e g1
  have ga2 := g2
  obtain ⟨w0, w1, w2, rfl⟩ : ∃ w0 w1 w2 : Value, args = #[w0, w1, w2] := by
    have hs : args.size = 3 := by simpa [Cond.value, given_1] using hcount
    obtain ⟨L⟩ := args
    match L, hs with
    | [w0, w1, w2], _ => exact ⟨w0, w1, w2, rfl⟩
  have hw := fun d (hd : d ∈ tables_1) => atoms_spec (ws := Jvm.Cond.code x code maxLocals ret :: tables_1) hat d (List.mem_cons_of_mem _ hd)
  have hfit : Fit s := fun {y c} hc i hi => by
    obtain ⟨ha, rfl⟩ := Array.getElem?_eq_some_iff.mp hc
    have q := List.all_eq_true.mp ((Array.all_eq_true_iff_forall_mem.mp hF) _ (Array.getElem_mem ha)) i (List.mem_range.mpr hi)
    simpa [Array.getElem?_eq_getElem hi] using q
  obtain ⟨i0, ei0⟩ := isL_v ga0
  obtain rfl : w0 = (.long i0) := Option.some.inj ei0
  obtain ⟨i1, ei1⟩ := isL_v ga1
  obtain rfl : w1 = (.long i1) := Option.some.inj ei1
  obtain ⟨i2, ei2⟩ := is_v ga2
  obtain rfl : w2 = (.int i2) := Option.some.inj ei2
  obtain ⟨n, o, h1, h2, h3, _, L, rfl, ⟨rfl, N⟩, hq⟩ := rm0 l s _ hw tables_1 i0 i1 i2 s.heap s.heap.size (Nat.le_refl _) p e ha hc hk s m _ below hf ((Spec.applies_iff_loose hf).mp happ).1 ⟨rfl, State.Warmed39.refl s, rfl⟩ trivial
  refine ⟨n, _, h1, h2, h3, hpost _ _ _ _ _ _ ⟨Cond.after_iff.mpr rfl, Cond.after_iff.mpr (eq_i res_at (Term.int_eval (1)) rfl), trivial⟩ ⟨hq.1, hq.2.1, (hq.2.2.sift fun y hy => Or.inr (N y hy)).mono (by decide) (by decide)⟩⟩
theorem main_1_1 : Claimed_1_1 := comes_1 fun _ _ _ _ _ _ h hF => ⟨h.1, hF⟩
theorem main_1_2 : Claimed_1_2 := comes_1 fun _ _ _ _ _ _ h hF => ⟨h.2.1, hF⟩
end Jvm.Pilot.@@N@@
namespace Jvm.Pilot.@@N@@
open Jvm Jvm.ClassFile Sem Op Lib Jvm.Free Jvm.Stand Jvm.Pilot.@@N@@.Jvm.D
/-! MADE BY PROGRAM (witnessworld.py) out of the Statement's table words and the real class files: 14 classes; the members and pool entries that the words name. The judged class is class 1, her method 1. -/
namespace start1
open Jvm.ClassFile
def u (s : String) : CpInfo := .utf8 (stringToUtf16 s)
/-- a pool by its gaps: so many unusable entries, then the entry; so many at the end -/
def gap : Nat → List CpInfo → List CpInfo
  | 0, r => r
  | n + 1, r => .unusable :: gap n r
def poolList (es : List (Nat × CpInfo)) (last : Nat) : List CpInfo := es.foldr (fun e r => gap e.1 (e.2 :: r)) (gap last [])
def pool (es : List (Nat × CpInfo)) (last : Nat) : Array CpInfo := ⟨poolList es last⟩
def fileOf (pool : Array CpInfo) (this : Nat) (attrs : Array Attribute := #[]) (ms : Array MethodInfo := #[]) (fl : Nat := 33) (sup : Nat := 0) (ifs : Array Nat := #[]) (fds : Array FieldInfo := #[]) : ClassFile where
  minorVersion := 0
  majorVersion := 65
  constantPool := pool
  accessFlags := fl
  thisClass := this
  superClass := sup
  interfaces := ifs
  fields := fds
  methods := ms
  attributes := attrs
def plain (name : String) (sup : Option ClassId) : Class where
  name := name
  kind := .ordinary
  loader := none
  accessFlags := 33
  super := sup
  interfaces := #[]
  cf := none
  fields := #[]
  methods := #[]
  instanceTypes := #[]
  staticTypes := #[]
  resolved := #[]
  callSites := []
  init := .initialized
  statics := none
  mirror := none

def pool0 : Array CpInfo := pool [(5, u "<init>"), (0, u "()V"), (1, .class_ 10), (1, u "java/lang/Object")] 113

def k0c0 : Code := { maxStack := 0, maxLocals := 1, code := object_method_1_code, exceptionTable := #[], attributes := #[] }
def k0m0 : Method := { name := "<init>", desc := "()V", sig := { parameters := [], returnType := none }, accessFlags := 1, code := some k0c0 }
/-- java/lang/Object -/
def k0 : Class := { plain "java/lang/Object" none with
  accessFlags := 33
  interfaces := #[]
  cf := some (fileOf pool0 8 #[] #[{ accessFlags := 1, nameIndex := 5, descriptorIndex := 6, attributes := #[] }] 33 0 #[] #[])
  fields := #[]
  methods := #[k0m0]
  instanceTypes := #[]
  staticTypes := #[]
  resolved := Array.replicate 124 none
  statics := none }

def pool1 : Array CpInfo := pool [(2, .class_ 4), (1, u "java/lang/Object"), (0, u "<init>"), (0, u "()V"), (0, .class_ 8), (0, u "com/example/postie/postie/store/MessageId"), (0, .methodref 7 10), (0, .nameAndType 5 11), (0, u "(JJ)V"), (0, .methodref 7 13), (0, .nameAndType 14 15), (0, u "hashCode"), (0, u "()I"), (0, .methodref 7 17), (0, .nameAndType 18 19), (0, u "equals"), (0, u "(Ljava/lang/Object;)Z"), (0, .class_ 21), (0, u "com/example/postie/postie/store/MessageIdHashCodePinLaw"), (2, u "law"), (0, u "(JJI)Z")] 3

def k1m0 : Method := { name := "<init>", desc := "()V", sig := { parameters := [], returnType := none }, accessFlags := 1, code := none }
def k1c1 : Code := { maxStack := 8, maxLocals := 16, code := code, exceptionTable := #[], attributes := #[] }
def k1m1 : Method := { name := "law", desc := "(JJI)Z", sig := { parameters := [.long, .long, .int], returnType := some .boolean }, accessFlags := 9, code := some k1c1 }
/-- com/example/postie/postie/store/MessageIdHashCodePinLaw -/
def k1 : Class := { plain "com/example/postie/postie/store/MessageIdHashCodePinLaw" (some 0) with
  accessFlags := 49
  interfaces := #[]
  cf := some (fileOf pool1 20 #[] #[{ accessFlags := 1, nameIndex := 5, descriptorIndex := 6, attributes := #[] }, { accessFlags := 9, nameIndex := 24, descriptorIndex := 25, attributes := #[] }] 49 2 #[] #[])
  fields := #[]
  methods := #[k1m0, k1m1]
  instanceTypes := #[]
  staticTypes := #[]
  resolved := Array.replicate 29 none
  statics := none }

def pool2 : Array CpInfo := pool [(1, .class_ 2), (0, u "java/lang/Comparable"), (0, .class_ 4), (0, u "java/lang/Object")] 7

/-- java/lang/Comparable -/
def k2 : Class := { plain "java/lang/Comparable" (some 0) with
  accessFlags := 1537
  interfaces := #[]
  cf := some (fileOf pool2 1 #[] #[] 1537 3 #[] #[])
  fields := #[]
  methods := #[]
  instanceTypes := #[]
  staticTypes := #[]
  resolved := Array.replicate 12 none
  statics := none }

def pool3 : Array CpInfo := pool [(1, .methodref 2 3), (0, .class_ 4), (0, .nameAndType 5 6), (0, u "java/lang/Object"), (0, u "<init>"), (0, u "()V"), (0, .fieldref 8 9), (0, .class_ 10), (0, .nameAndType 11 12), (0, u "com/example/postie/postie/store/MessageId"), (0, u "high"), (0, u "J"), (0, .fieldref 8 14), (0, .nameAndType 15 12), (0, u "low"), (2, u "TEXT"), (0, u "Ljava/util/regex/Pattern;"), (27, u "(JJ)V"), (22, .class_ 72), (1, u "java/lang/Long"), (2, .methodref 70 76), (0, .nameAndType 77 78), (0, u "hashCode"), (0, u "(J)I"), (15, .class_ 95), (0, u "java/lang/Comparable"), (0, u "BYTES"), (0, u "I"), (11, u "equals"), (0, u "(Ljava/lang/Object;)Z"), (0, u "()I")] 7

def k3c0 : Code := { maxStack := 3, maxLocals := 5, code := prog_32_method_1_code, exceptionTable := #[], attributes := #[] }
def k3m0 : Method := { name := "<init>", desc := "(JJ)V", sig := { parameters := [.long, .long], returnType := none }, accessFlags := 0, code := some k3c0 }
def k3c1 : Code := { maxStack := 4, maxLocals := 2, code := prog_32_method_9_code, exceptionTable := #[], attributes := #[] }
def k3m1 : Method := { name := "equals", desc := "(Ljava/lang/Object;)Z", sig := { parameters := [(.object "java/lang/Object")], returnType := some .boolean }, accessFlags := 1, code := some k3c1 }
def k3c2 : Code := { maxStack := 3, maxLocals := 1, code := prog_32_method_10_code, exceptionTable := #[], attributes := #[] }
def k3m2 : Method := { name := "hashCode", desc := "()I", sig := { parameters := [], returnType := some .int }, accessFlags := 1, code := some k3c2 }
/-- com/example/postie/postie/store/MessageId -/
def k3 : Class := { plain "com/example/postie/postie/store/MessageId" (some 0) with
  accessFlags := 49
  interfaces := #[2]
  cf := some (fileOf pool3 8 #[] #[{ accessFlags := 0, nameIndex := 5, descriptorIndex := 47, attributes := #[] }, { accessFlags := 1, nameIndex := 109, descriptorIndex := 110, attributes := #[] }, { accessFlags := 1, nameIndex := 77, descriptorIndex := 111, attributes := #[] }] 49 2 #[94] #[{ accessFlags := 24, nameIndex := 96, descriptorIndex := 97, attributes := #[] }, { accessFlags := 26, nameIndex := 18, descriptorIndex := 19, attributes := #[] }, { accessFlags := 18, nameIndex := 11, descriptorIndex := 12, attributes := #[] }, { accessFlags := 18, nameIndex := 15, descriptorIndex := 12, attributes := #[] }])
  fields := #[{ name := "BYTES", type := .int, accessFlags := 24, slot := 0, constantValue := 0 }, { name := "TEXT", type := (.object "java/util/regex/Pattern"), accessFlags := 26, slot := 1, constantValue := 0 }, { name := "high", type := .long, accessFlags := 18, slot := 0, constantValue := 0 }, { name := "low", type := .long, accessFlags := 18, slot := 1, constantValue := 0 }]
  methods := #[k3m0, k3m1, k3m2]
  instanceTypes := #[.long, .long]
  staticTypes := #[.int, (.object "java/util/regex/Pattern")]
  resolved := Array.replicate 119 none
  statics := none }

def pool4 : Array CpInfo := pool [(1, .class_ 2), (0, u "java/io/Serializable"), (0, .class_ 4), (0, u "java/lang/Object")] 2

/-- java/io/Serializable -/
def k4 : Class := { plain "java/io/Serializable" (some 0) with
  accessFlags := 1537
  interfaces := #[]
  cf := some (fileOf pool4 1 #[] #[] 1537 3 #[] #[])
  fields := #[]
  methods := #[]
  instanceTypes := #[]
  staticTypes := #[]
  resolved := Array.replicate 7 none
  statics := none }

def pool5 : Array CpInfo := pool [(2, .class_ 4), (1, u "java/lang/Object"), (0, u "<init>"), (0, u "()V"), (1, .class_ 10), (1, u "java/lang/Number"), (2, .class_ 14), (0, u "java/io/Serializable"), (0, u "serialVersionUID"), (0, u "J")] 20

def k5m0 : Method := { name := "<init>", desc := "()V", sig := { parameters := [], returnType := none }, accessFlags := 1, code := none }
/-- java/lang/Number -/
def k5 : Class := { plain "java/lang/Number" (some 0) with
  accessFlags := 1057
  interfaces := #[4]
  cf := some (fileOf pool5 8 #[] #[{ accessFlags := 1, nameIndex := 5, descriptorIndex := 6, attributes := #[] }] 1057 2 #[13] #[{ accessFlags := 26, nameIndex := 15, descriptorIndex := 16, attributes := #[] }])
  fields := #[{ name := "serialVersionUID", type := .long, accessFlags := 26, slot := 0, constantValue := 0 }]
  methods := #[k5m0]
  instanceTypes := #[]
  staticTypes := #[.long]
  resolved := Array.replicate 37 none
  statics := none }

def pool6 : Array CpInfo := pool [(1, .class_ 2), (0, u "java/lang/constant/Constable"), (0, .class_ 4), (0, u "java/lang/Object")] 6

/-- java/lang/constant/Constable -/
def k6 : Class := { plain "java/lang/constant/Constable" (some 0) with
  accessFlags := 1537
  interfaces := #[]
  cf := some (fileOf pool6 1 #[] #[] 1537 3 #[] #[])
  fields := #[]
  methods := #[]
  instanceTypes := #[]
  staticTypes := #[]
  resolved := Array.replicate 11 none
  statics := none }

def pool7 : Array CpInfo := pool [(1, .class_ 2), (0, u "java/lang/constant/ConstantDesc"), (0, .class_ 4), (0, u "java/lang/Object")] 32

/-- java/lang/constant/ConstantDesc -/
def k7 : Class := { plain "java/lang/constant/ConstantDesc" (some 0) with
  accessFlags := 1537
  interfaces := #[]
  cf := some (fileOf pool7 1 #[] #[] 1537 3 #[] #[])
  fields := #[]
  methods := #[]
  instanceTypes := #[]
  staticTypes := #[]
  resolved := Array.replicate 37 none
  statics := none }

def pool8 : Array CpInfo := pool [(1, .class_ 2), (0, u "java/lang/Long"), (98, u "(J)I"), (133, .class_ 237), (1, u "java/lang/Long$LongCache"), (33, .class_ 272), (0, u "java/lang/Number"), (2, u "value"), (0, u "J"), (2, u "hashCode"), (81, u "TYPE"), (0, u "Ljava/lang/Class;"), (0, .class_ 364), (0, u "java/lang/Comparable"), (0, .class_ 366), (0, u "java/lang/constant/Constable"), (0, .class_ 368), (0, u "java/lang/constant/ConstantDesc"), (0, u "MIN_VALUE"), (1, u "MAX_VALUE"), (4, u "SIZE"), (0, u "I"), (1, u "BYTES"), (1, u "serialVersionUID")] 142

def k8c0 : Code := { maxStack := 5, maxLocals := 2, code := jdk_35_method_36_code, exceptionTable := #[], attributes := #[] }
def k8m0 : Method := { name := "hashCode", desc := "(J)I", sig := { parameters := [.long], returnType := some .int }, accessFlags := 9, code := some k8c0 }
/-- java/lang/Long -/
def k8 : Class := { plain "java/lang/Long" (some 5) with
  accessFlags := 49
  interfaces := #[2, 6, 7]
  cf := some (fileOf pool8 1 #[.nestMembers #[235]] #[{ accessFlags := 9, nameIndex := 279, descriptorIndex := 101, attributes := #[] }] 49 271 #[363, 365, 367] #[{ accessFlags := 25, nameIndex := 369, descriptorIndex := 276, attributes := #[] }, { accessFlags := 25, nameIndex := 371, descriptorIndex := 276, attributes := #[] }, { accessFlags := 25, nameIndex := 361, descriptorIndex := 362, attributes := #[] }, { accessFlags := 18, nameIndex := 275, descriptorIndex := 276, attributes := #[] }, { accessFlags := 25, nameIndex := 376, descriptorIndex := 377, attributes := #[] }, { accessFlags := 25, nameIndex := 379, descriptorIndex := 377, attributes := #[] }, { accessFlags := 26, nameIndex := 381, descriptorIndex := 276, attributes := #[] }])
  fields := #[{ name := "MIN_VALUE", type := .long, accessFlags := 25, slot := 0, constantValue := 0 }, { name := "MAX_VALUE", type := .long, accessFlags := 25, slot := 1, constantValue := 0 }, { name := "TYPE", type := (.object "java/lang/Class"), accessFlags := 25, slot := 2, constantValue := 0 }, { name := "value", type := .long, accessFlags := 18, slot := 0, constantValue := 0 }, { name := "SIZE", type := .int, accessFlags := 25, slot := 3, constantValue := 0 }, { name := "BYTES", type := .int, accessFlags := 25, slot := 4, constantValue := 0 }, { name := "serialVersionUID", type := .long, accessFlags := 26, slot := 5, constantValue := 0 }]
  methods := #[k8m0]
  instanceTypes := #[.long]
  staticTypes := #[.long, .long, (.object "java/lang/Class"), .int, .int, .long]
  resolved := Array.replicate 524 none
  statics := none }

def pool9 : Array CpInfo := pool [(1, u "java/lang/Cloneable"), (0, .class_ 1), (0, u "java/lang/Object"), (0, .class_ 3)] 3

/-- java/lang/Cloneable -/
def k9 : Class := { plain "java/lang/Cloneable" (some 0) with
  accessFlags := 1537
  interfaces := #[]
  cf := some (fileOf pool9 2 #[] #[] 1537 4 #[] #[])
  fields := #[]
  methods := #[]
  instanceTypes := #[]
  staticTypes := #[]
  resolved := Array.replicate 8 none
  statics := none }

/-- the primitive byte -/
def k10 : Class := { plain "byte" none with kind := .primitive 'B', accessFlags := 0x411 }
/-- [B -/
def k11 : Class := { plain "[B" (some 0) with kind := .array 10 .byte, interfaces := #[9, 4], accessFlags := 1041 }

/-- the primitive int -/
def k12 : Class := { plain "int" none with kind := .primitive 'I', accessFlags := 0x411 }
/-- [I -/
def k13 : Class := { plain "[I" (some 0) with kind := .array 12 .int, interfaces := #[9, 4], accessFlags := 1041 }

def heap : Heap := #[]
def classes : Array Class := #[k0, k1, k2, k3, k4, k5, k6, k7, k8, k9, k10, k11, k12, k13]
def interned : List (Array UInt16 × Addr) := []
def slotsUsed : Nat := 0
def theMethod : MethodId := ⟨1, 1⟩
def args0 : Array Value := #[.long 5, .long 7, .int 3]
def aboutOver (below : List Frame) : State where
  vm := { classes := classes, interned := interned.toArray }
  heap := heap
  slotsUsed := slotsUsed
  threads := #[{ frames := .invoking theMethod args0 :: below }]
def below0 : List Frame := [.native { method := ⟨0, 0⟩, args := #[] }]
def about1 : State := aboutOver below0
def p0 : Program := .bare "" "" ""
def e0 : Env := launch0.env 0 0 0
theorem w_frames : about1.frames = Frame.invoking theMethod args0 :: below0 := rfl
set_option maxRecDepth 65536 in
theorem w_args : argsFit about1.vm theMethod args0 = true := by decide +kernel
set_option maxRecDepth 65536 in
theorem w_heap : heapFits about1 = true := by decide +kernel
set_option maxRecDepth 65536 in
theorem w_runnable : about1.curStatus? = some .runnable := by decide +kernel
set_option maxRecDepth 65536 in
theorem w_alone : about1.alone = true := by decide +kernel
set_option maxRecDepth 65536 in
theorem w_named : about1.methodNamed? x = some theMethod := by decide +kernel
set_option maxRecDepth 65536 in
theorem w_hears : about1.hears theMethod below0 = true := by decide +kernel
set_option maxRecDepth 65536 in
theorem w_ripe : about1.ripe theMethod args0 below0 = true := by decide +kernel
theorem w_running : about1.status = .running := rfl
set_option maxRecDepth 65536 in
theorem w_room : about1.hasRoom e0.platform room_1 = true :=
  launch0.hasRoom_least _ room_1 (by decide +kernel) (by decide +kernel) (by decide +kernel) (by decide +kernel) (by decide +kernel) (by decide +kernel)
theorem allAtoms_all (ts : List Jvm.Cond) (a : Array Jvm.Value) (st : Jvm.State) : (allAtoms ts).before a st = ts.all (fun c => c.before a st) := by
  induction ts with
  | nil => rfl
  | cons c t ih =>
    show (Jvm.Cond.and c (allAtoms t)).before a st = _
    rw [Jvm.Cond.before_and, ih, List.all_cons]
def words1 : List Jvm.Cond := Jvm.Cond.code x code maxLocals ret :: tables_1
/-- a 'code' word, met by the world's own term for the bytes: nothing is compared byte by byte -/
theorem code_word {y : MethodName} {bytes : ByteArray} {mx : Nat} {rt : Option FieldType} {a : Array Value} {s : State} {m : MethodId} {meth : Method} {c : Code} (h1 : s.methodNamed? y = some m) (h2 : s.vm.method? m = some meth) (h3 : meth.code = some c) (h4 : c.code = bytes)
    (h5 : (c.maxLocals == mx && c.exceptionTable.isEmpty && decide (c.maxStack ≤ mostOperands) && decide (meth.sig.returnType = rt) && !meth.locks && decide (parseMethodDescriptor y.desc = some meth.sig)) = true) : (Jvm.Cond.code y bytes mx rt).before a s = true := by
  simp only [Bool.and_eq_true, beq_iff_eq, Bool.not_eq_true', decide_eq_true_eq] at h5
  obtain ⟨⟨⟨⟨⟨g1, g2⟩, g3⟩, g4⟩, g5⟩, g6⟩ := h5
  simp [Cond.before, Cond.holds, Cond.value, h1, h2, h3, h4, g1, g2, g3, g4, g5, g6]
def isCode : Jvm.Cond → Bool
  | .code _ _ _ _ => true
  | _ => false
theorem all_split {L : List Jvm.Cond} {P : Jvm.Cond → Bool} (h1 : L.all (fun c => isCode c || P c) = true) (h2 : ∀ c ∈ L.filter isCode, P c = true) : L.all P = true := by
  refine List.all_eq_true.mpr fun c hc => ?_
  have h := List.all_eq_true.mp h1 c hc
  rcases Bool.eq_false_or_eq_true (isCode c) with hi | hi
  · exact h2 c (List.mem_filter.mpr ⟨hc, hi⟩)
  · simpa [hi] using h
set_option maxRecDepth 65536 in
theorem w_c0 : (Jvm.Cond.code x code maxLocals ret).before args0 about1 = true := code_word (m := ⟨1, 1⟩) (meth := k1m1) (c := k1c1) (by decide +kernel) rfl rfl rfl (by decide +kernel)
set_option maxRecDepth 65536 in
theorem w_c1 : (Jvm.Cond.code ({ cls := "com/example/postie/postie/store/MessageId", name := "<init>", desc := "(JJ)V" } : Jvm.MethodName) prog_32_method_1_code (5 : Nat) (Option.none : Option Jvm.ClassFile.FieldType)).before args0 about1 = true := code_word (m := ⟨3, 0⟩) (meth := k3m0) (c := k3c0) (by decide +kernel) rfl rfl rfl (by decide +kernel)
set_option maxRecDepth 65536 in
theorem w_c2 : (Jvm.Cond.code ({ cls := "java/lang/Object", name := "<init>", desc := "()V" } : Jvm.MethodName) object_method_1_code (1 : Nat) (Option.none : Option Jvm.ClassFile.FieldType)).before args0 about1 = true := code_word (m := ⟨0, 0⟩) (meth := k0m0) (c := k0c0) (by decide +kernel) rfl rfl rfl (by decide +kernel)
set_option maxRecDepth 65536 in
theorem w_c3 : (Jvm.Cond.code ({ cls := "com/example/postie/postie/store/MessageId", name := "hashCode", desc := "()I" } : Jvm.MethodName) prog_32_method_10_code (1 : Nat) (Option.some Jvm.ClassFile.FieldType.int)).before args0 about1 = true := code_word (m := ⟨3, 2⟩) (meth := k3m2) (c := k3c2) (by decide +kernel) rfl rfl rfl (by decide +kernel)
set_option maxRecDepth 65536 in
theorem w_c4 : (Jvm.Cond.code ({ cls := "java/lang/Long", name := "hashCode", desc := "(J)I" } : Jvm.MethodName) jdk_35_method_36_code (2 : Nat) (Option.some Jvm.ClassFile.FieldType.int)).before args0 about1 = true := code_word (m := ⟨8, 0⟩) (meth := k8m0) (c := k8c0) (by decide +kernel) rfl rfl rfl (by decide +kernel)
set_option maxRecDepth 65536 in
theorem w_c5 : (Jvm.Cond.code ({ cls := "com/example/postie/postie/store/MessageId", name := "equals", desc := "(Ljava/lang/Object;)Z" } : Jvm.MethodName) prog_32_method_9_code (2 : Nat) (Option.some Jvm.ClassFile.FieldType.boolean)).before args0 about1 = true := code_word (m := ⟨3, 1⟩) (meth := k3m1) (c := k3c1) (by decide +kernel) rfl rfl rfl (by decide +kernel)
def codes1 : List Jvm.Cond := [Jvm.Cond.code x code maxLocals ret, Jvm.Cond.code ({ cls := "com/example/postie/postie/store/MessageId", name := "<init>", desc := "(JJ)V" } : Jvm.MethodName) prog_32_method_1_code (5 : Nat) (Option.none : Option Jvm.ClassFile.FieldType), Jvm.Cond.code ({ cls := "java/lang/Object", name := "<init>", desc := "()V" } : Jvm.MethodName) object_method_1_code (1 : Nat) (Option.none : Option Jvm.ClassFile.FieldType), Jvm.Cond.code ({ cls := "com/example/postie/postie/store/MessageId", name := "hashCode", desc := "()I" } : Jvm.MethodName) prog_32_method_10_code (1 : Nat) (Option.some Jvm.ClassFile.FieldType.int), Jvm.Cond.code ({ cls := "java/lang/Long", name := "hashCode", desc := "(J)I" } : Jvm.MethodName) jdk_35_method_36_code (2 : Nat) (Option.some Jvm.ClassFile.FieldType.int), Jvm.Cond.code ({ cls := "com/example/postie/postie/store/MessageId", name := "equals", desc := "(Ljava/lang/Object;)Z" } : Jvm.MethodName) prog_32_method_9_code (2 : Nat) (Option.some Jvm.ClassFile.FieldType.boolean)]
set_option maxRecDepth 65536 in
theorem codes_eq : words1.filter isCode = codes1 := rfl
theorem w_codes : ∀ c ∈ words1.filter isCode, c.before args0 about1 = true := by
  rw [codes_eq]
  intro c hc
  simp only [codes1, List.mem_cons, List.not_mem_nil, or_false] at hc
  rcases hc with rfl | rfl | rfl | rfl | rfl | rfl
  · exact w_c0
  · exact w_c1
  · exact w_c2
  · exact w_c3
  · exact w_c4
  · exact w_c5
set_option maxRecDepth 65536 in
theorem w_t1 : (words1.take 24).all (fun c => isCode c || c.before args0 about1) = true := by decide +kernel
set_option maxRecDepth 65536 in
theorem w_t2 : (words1.drop 24).all (fun c => isCode c || c.before args0 about1) = true := by decide +kernel
theorem w_tables : (allAtoms (Jvm.Cond.code x code maxLocals ret :: tables_1)).before args0 about1 = true := by
  rw [allAtoms_all]
  show words1.all (fun c => c.before args0 about1) = true
  refine all_split ?_ w_codes
  rw [← List.take_append_drop 24 words1, List.all_append, w_t1, w_t2]
  rfl
set_option maxRecDepth 65536 in
theorem w_case : (Jvm.Cond.and given_1 narrow_1).before args0 about1 = true := by decide +kernel
theorem w_applies : (headSpec (Jvm.Cond.code x code maxLocals ret :: tables_1) room_1).applies x e0.platform about1 = true :=
  (Spec.applies_iff w_frames).mpr ⟨w_running, w_runnable, w_alone, w_named, w_hears, w_ripe, w_room, w_tables⟩
theorem atStart : AtStart classFile x code maxLocals ret World_1 tables_1 room_1 Calls_1 rest_1 Pre_1 launch0 p0 e0 about1 theMethod args0 below0 :=
  ⟨lists_1, trivial, launch0.admits_env _ _ _, launch0.least_env, fairChoices_fair.cas, fairChoices_fair.clock, w_frames, w_args, w_heap, w_applies, trivial, trivial, w_case⟩
end start1
theorem witness_1 : WitnessClaimed_1 := ⟨start1.p0, start1.e0, start1.about1, start1.theMethod, start1.args0, start1.below0, start1.atStart⟩
end Jvm.Pilot.@@N@@
