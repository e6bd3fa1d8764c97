import JvmDerived
import JvmDerived.Pilot.@@N@@Statement
import JvmDerived.Pilot.@@N@@Code
set_option linter.unusedVariables false
set_option linter.unusedSimpArgs false
namespace Jvm.RoadKit
open Sem ClassFile Op Lib Jvm.Stand Jvm.Free Jvm.LawKit
section New
variable {p : Program} {l : Launch} {e : Env} {R : Room} {s : State} {m : MethodId} {args : Array Value} {below : List Frame} {meth : Method} {c : Code} {T : State} {locs : List Loc} {cells slots : Nat}
theorem retI (X : Stand p l e R s m args below meth c T locs cells slots) (hx : p.tables.exec = Jvm.exec) {pc : Nat} {Ls : Array Slot} {z : Int32} {rest : List Value} (hret : meth.sig.returnType = some .int) (hd : decode c.code pc = .ok (.ireturn, 1)) {fs : List Frame}
    (hl : ∀ (f : JFrame) (acts : List Action), f.method = m → f.locked = none → f.entered = [] → (doReturn e (T.setTop f) acts (some (.int z))).1 = T.setFrames fs) : Steps p.tables e below (T.setTop (mkF m pc Ls (.int z :: rest))) (T.setFrames fs) := by
  have hm' : T.vm.method? m = some meth := X.method'
  have hn : narrow .int (.int z) = .int z := rfl
  show Steps p.tables e below (T.setTop { method := m, pc := pc, locals := Ls, stack := _ :: rest, locked := none }) _
  jvm_step X.here [X.here.top, hx, hd, hm', hret, hn]
  first | (intro acts; rw [hl _ acts rfl rfl rfl]) | rw [hl _ _ rfl rfl rfl]
  exact Steps.refl _
end New
theorem own_sta_keep {Z : State} {h h' : Heap} {C n d : String} {v : Value} {ws : List Addr} (F : Sta Z h C n d v) (K : Keep h h' ws) (q : ∀ x ∈ ws, ∀ c : Cell, h[x]? = some c → c.vm.isStatics = false) : Sta Z h' C n d v := by
  obtain ⟨cf, i, k, f, st, cell, h1, h2, h3, h4, h5, h6, h7⟩ := F
  exact ⟨cf, i, k, f, st, cell, h1, h2, h3, h4, K.2.1 st cell h5 (fun hm => by rw [q st hm cell h5] at h6; cases h6), h6, h7⟩
theorem own_plain_Exa {Z : State} {h : Heap} {a : Addr} {C : String} (F : Exa Z h a C) : ∀ c : Cell, h[a]? = some c → c.vm.isStatics = false := fun c hc => by
  obtain ⟨cell, _, h1, -, -, h4, -⟩ := F
  cases h1.symm.trans hc; exact h4
theorem own_plain_Arv {Z : State} {h : Heap} {a : Addr} {k : ClassId} {ty : FieldType} {n : Int32} {vs : List Value} {d : Value} (F : Arv Z h a k ty n vs d) : ∀ c : Cell, h[a]? = some c → c.vm.isStatics = false := fun c hc => by
  obtain ⟨cell, A, -⟩ := F
  cases A.1.symm.trans hc; exact A.plain
end Jvm.RoadKit
namespace Jvm.Pilot.@@N@@
open Jvm Jvm.ClassFile Sem Op Lib Jvm.Free Jvm.Stand Jvm.LawKit Jvm.RoadKit Bundle Jvm.Pilot.@@N@@.Jvm.D
def bI (P : Prop) [Decidable P] : Int32 := if P then 1 else 0
theorem bI_eq {P Q : Prop} [Decidable P] [Decidable Q] : bI P = bI Q ↔ (P ↔ Q) := by unfold bI; by_cases h : P <;> by_cases g : Q <;> simp [h, g]
theorem bI_eq1 {P : Prop} [Decidable P] : bI P = 1 ↔ P := by unfold bI; by_cases h : P <;> simp [h]
theorem bI_1eq {P : Prop} [Decidable P] : 1 = bI P ↔ P := by unfold bI; by_cases h : P <;> simp [h]
theorem bI_eq0 {P : Prop} [Decidable P] : bI P = 0 ↔ (P ↔ False) := by unfold bI; by_cases h : P <;> simp [h]
theorem bI_0eq {P : Prop} [Decidable P] : 0 = bI P ↔ (False ↔ P) := by unfold bI; by_cases h : P <;> simp [h]
theorem bI_t {P : Prop} [Decidable P] (h : P) : bI P = 1 := if_pos h
theorem bI_f {P : Prop} [Decidable P] (h : ¬ P) : bI P = 0 := if_neg h
theorem bI_iff {P Q : Prop} [Decidable P] [Decidable Q] (h : P ↔ Q) : bI P = bI Q := bI_eq.mpr h
theorem imp_iff_h {P Q : Prop} (h : P) : (P → Q) ↔ Q := ⟨fun f => f h, fun q _ => q⟩
theorem sel_t {P A B : Prop} (h : P) : ((P ∧ A) ∨ (¬ P ∧ B)) ↔ A := ⟨fun q => q.elim (fun z => z.2) (fun z => absurd h z.1), fun a => Or.inl ⟨h, a⟩⟩
theorem sel_f {P A B : Prop} (h : ¬ P) : ((P ∧ A) ∨ (¬ P ∧ B)) ↔ B := ⟨fun q => q.elim (fun z => absurd z.1 h) (fun z => z.2), fun b => Or.inr ⟨h, b⟩⟩
theorem bB_eq_t {P : Prop} [Decidable P] (h : ¬ P) : ifCond.holds .eq (bI P) = true := by rw [bI_f h]; rfl
theorem bB_eq_f {P : Prop} [Decidable P] (h : P) : ifCond.holds .eq (bI P) = false := by rw [bI_t h]; rfl
theorem bB_ne_t {P : Prop} [Decidable P] (h : P) : ifCond.holds .ne (bI P) = true := by rw [bI_t h]; rfl
theorem bB_ne_f {P : Prop} [Decidable P] (h : ¬ P) : ifCond.holds .ne (bI P) = false := by rw [bI_f h]; rfl
theorem bI_nar {P : Prop} [Decidable P] : nar .boolean (bI P) = bI P := by by_cases h : P <;> simp only [bI, h, if_true, if_false] <;> rfl
theorem bI_ret {P : Prop} [Decidable P] : (some (.int (nar .boolean (bI P))) : Option Value) = some (.int (bI P)) := by rw [bI_nar]
theorem bI_one {P : Prop} [Decidable P] (h : P) : (some (.int (nar .boolean (bI P))) : Option Value) = some (.int 1) := by rw [bI_nar, bI_t h]
theorem own_ite_ref {P : Prop} [Decidable P] {x y : Value} (h : x.isRef = true) (g : y.isRef = true) : (if P then x else y).isRef = true := by by_cases q : P <;> simp [q, h, g]
theorem own_fits_ref {t : FieldType} {x : Value} (ht : t.isReference = true) (h : x.isRef = true) : fits t x = true := by cases t <;> first | (cases ht; done) | (cases x <;> simp_all [fits, Value.isRef])
theorem own_eqI {args : Array Value} {s : State} {t : Term} {k : Int32} (h : (Cond.eq t (.int k)).value args s none s [] = some true) : t.eval args s none [] s = some (.int k) := by
  simp only [Cond.value, Term.eval] at h
  cases ht : t.eval args s none [] s with
  | none => simp [ht] at h
  | some v => cases v <;> simp [ht] at h ⊢; exact h
theorem own_eqR {args : Array Value} {s : State} {t u : Term} {v : Value} (hu : u.eval args s none [] s = some v) (hv : v.isRef = true) (h : (Cond.eq t u).value args s none s [] = some true) : t.eval args s none [] s = some v := by
  cases ht : t.eval args s none [] s with
  | none => simp [Cond.value, ht, hu] at h
  | some x =>
    rcases ref_cases hv with rfl | ⟨a, rfl⟩ <;> cases x <;> simp [Cond.value, ht, hu] at h ⊢ <;> exact h
theorem own_len {args : Array Value} {s : State} {t : Term} {a : Addr} {c : Cell} {ty : FieldType} {k : Int32} (ev : t.eval args s none [] s = some (.ref a)) (A : Arr s s.heap a c ty) (h : (Term.length t).eval args s none [] s = some (.int k)) : c.slots.size < 2 ^ 31 ∧ c.slots.size.toInt32 = k := by
  have ha := A.fin (Vm.Alike.refl _)
  by_cases q : c.slots.size < 2 ^ 31
  · rw [len_f ev ha q] at h; exact ⟨q, by injection h with h; injection h⟩
  · simp [Term.eval, ev, ha, q] at h


def own_el (o x0 x1 x2 : Int32) : Int32 := if o = 0 then x0 else if o = 1 then x1 else x2
def own_pick (o x0 x1 x2 : Int32) : Int32 := if o = 0 then x0 else if o = 1 then x1 else x2
def own_ref (x : Int32) : Int32 := if x.toInt8.toInt32 < (0 : Int32) then (x.toInt8.toInt32 + (256 : Int32)) else x.toInt8.toInt32
theorem own_in {o : Int32} (h : o = 0 ∨ o = 1 ∨ o = 2) : ¬ o < 0 ∧ o < (3 : Int32) := by rcases h with rfl | rfl | rfl <;> decide
theorem own_el_at {o x0 x1 x2 : Int32} (h : o = 0 ∨ o = 1 ∨ o = 2) : [(Value.int x0), (.int x1), (.int x2)].getD o.toNatClampNeg (.int (0 : Int32)) = .int (own_el o x0 x1 x2) := by
  rcases h with rfl | rfl | rfl <;> rfl
theorem own_off (p4 : Int32) : ((p4 &&& (2147483647 : Int32)) % (3 : Int32)) = 0 ∨ ((p4 &&& (2147483647 : Int32)) % (3 : Int32)) = 1 ∨ ((p4 &&& (2147483647 : Int32)) % (3 : Int32)) = 2 := by
  have h := c_and p4 (2147483647 : Int32) (by decide)
  have g := (c_irem (p4 &&& (2147483647 : Int32)) (3 : Int32) 3 rfl).1 h.1
  generalize ((p4 &&& (2147483647 : Int32)) % (3 : Int32)) = u at *
  have k : u.toInt = 0 ∨ u.toInt = 1 ∨ u.toInt = 2 := by omega
  rcases k with k | k | k
  · exact Or.inl (Int32.toInt_inj.mp k)
  · exact Or.inr (Or.inl (Int32.toInt_inj.mp k))
  · exact Or.inr (Or.inr (Int32.toInt_inj.mp k))
theorem own_next {o : Int32} (h : o = 0 ∨ o = 1 ∨ o = 2) (g : o < (2 : Int32)) : o + (1 : Int32) = 0 ∨ o + (1 : Int32) = 1 ∨ o + (1 : Int32) = 2 := by
  rcases h with rfl | rfl | rfl
  · decide
  · decide
  · exact absurd g (by decide)
theorem own_byte (x : Int32) : ((nar .byte x.toInt8.toInt32) &&& (255 : Int32)) = own_ref x ∧ ¬ (((nar .byte x.toInt8.toInt32) &&& (255 : Int32)) < (0 : Int32)) ∧ ¬ ((255 : Int32) < ((nar .byte x.toInt8.toInt32) &&& (255 : Int32))) := by
  have e : nar .byte x.toInt8.toInt32 = x.toInt8.toInt32 := by show x.toInt8.toInt32.toInt8.toInt32 = _; simp
  rw [e]
  have r := (c_i2b x).2
  generalize hb : x.toInt8.toInt32 = b at *
  have m := c_mask b (255 : Int32) 8 (by decide) (by decide)
  have z0 : (0 : Int32).toInt = 0 := rfl
  have z1 : (255 : Int32).toInt = 255 := rfl
  have z2 : (256 : Int32).toInt = 256 := rfl
  refine ⟨?_, ?_, ?_⟩
  · unfold own_ref
    rw [hb]
    by_cases q : b < (0 : Int32)
    · rw [if_pos q]
      rw [Int32.lt_iff_toInt_lt, z0] at q
      refine Int32.toInt_inj.mp ?_
      rw [m, XT.add32 ⟨by rw [z2]; omega, by rw [z2]; omega⟩, z2]; omega
    · rw [if_neg q]
      rw [Int32.lt_iff_toInt_lt, z0] at q
      refine Int32.toInt_inj.mp ?_
      rw [m]; omega
  · rw [Int32.lt_iff_toInt_lt, z0, m]; omega
  · rw [Int32.lt_iff_toInt_lt, z1, m]; omega
theorem own_end1 {o p1 p2 p3 : Int32} (h : o = 0 ∨ o = 1 ∨ o = 2) : (((¬ (o = (3 : Int32))) ∧ (((own_el o (nar .byte p1.toInt8.toInt32) (nar .byte p2.toInt8.toInt32) (nar .byte p3.toInt8.toInt32)) &&& (255 : Int32)) = (own_ref (own_pick o p1 p2 p3)))) ∧ (¬ (((own_el o (nar .byte p1.toInt8.toInt32) (nar .byte p2.toInt8.toInt32) (nar .byte p3.toInt8.toInt32)) &&& (255 : Int32)) < (0 : Int32)) ∧ (¬ ((255 : Int32) < ((own_el o (nar .byte p1.toInt8.toInt32) (nar .byte p2.toInt8.toInt32) (nar .byte p3.toInt8.toInt32)) &&& (255 : Int32)))))) ∧ (((o + (1 : Int32)) = (3 : Int32)) ↔ (o = (2 : Int32))) := by
  have h1 := own_byte p1
  have h2 := own_byte p2
  have h3 := own_byte p3
  rcases h with rfl | rfl | rfl
  · exact ⟨⟨⟨by decide, h1.1⟩, h1.2⟩, by decide⟩
  · exact ⟨⟨⟨by decide, h2.1⟩, h2.2⟩, by decide⟩
  · exact ⟨⟨⟨by decide, h3.1⟩, h3.2⟩, by decide⟩
theorem own_end2 {o p1 p2 p3 : Int32} (h : o = 0 ∨ o = 1 ∨ o = 2) (g : o < (2 : Int32)) : ((((((¬ (o = (3 : Int32))) ∧ (((own_el o (nar .byte p1.toInt8.toInt32) (nar .byte p2.toInt8.toInt32) (nar .byte p3.toInt8.toInt32)) &&& (255 : Int32)) = (own_ref (own_pick o p1 p2 p3)))) ∧ (¬ (((own_el o (nar .byte p1.toInt8.toInt32) (nar .byte p2.toInt8.toInt32) (nar .byte p3.toInt8.toInt32)) &&& (255 : Int32)) < (0 : Int32)) ∧ (¬ ((255 : Int32) < ((own_el o (nar .byte p1.toInt8.toInt32) (nar .byte p2.toInt8.toInt32) (nar .byte p3.toInt8.toInt32)) &&& (255 : Int32)))))) ∧ (((o + (1 : Int32)) = (3 : Int32)) ↔ (o = (2 : Int32)))) ∧ (((own_el (o + (1 : Int32)) (nar .byte p1.toInt8.toInt32) (nar .byte p2.toInt8.toInt32) (nar .byte p3.toInt8.toInt32)) &&& (255 : Int32)) = (own_ref (own_pick (o + (1 : Int32)) p1 p2 p3)))) ∧ ((((o + (1 : Int32)) + (1 : Int32)) = (3 : Int32)) ↔ ((o + (1 : Int32)) = (2 : Int32)))) := by
  have h1 := own_byte p1
  have h2 := own_byte p2
  have h3 := own_byte p3
  refine ⟨⟨own_end1 h, ?_⟩, ?_⟩
  · rcases h with rfl | rfl | rfl
    · exact h2.1
    · exact h3.1
    · exact absurd g (by decide)
  · rcases h with rfl | rfl | rfl
    · decide
    · decide
    · exact absurd g (by decide)

theorem d1_0 : decode prog_19_method_1_code 0 = .ok (.aload_n 0, 1) := by decide +kernel
theorem d1_1 : decode prog_19_method_1_code 1 = .ok (.invokespecial 1, 3) := by decide +kernel
theorem d1_4 : decode prog_19_method_1_code 4 = .ok (.aload_n 0, 1) := by decide +kernel
theorem d1_5 : decode prog_19_method_1_code 5 = .ok (.aload_n 1, 1) := by decide +kernel
theorem d1_6 : decode prog_19_method_1_code 6 = .ok (.putfield 7, 3) := by decide +kernel
theorem d1_9 : decode prog_19_method_1_code 9 = .ok (.aload_n 0, 1) := by decide +kernel
theorem d1_10 : decode prog_19_method_1_code 10 = .ok (.iload_n 2, 1) := by decide +kernel
theorem d1_11 : decode prog_19_method_1_code 11 = .ok (.putfield 13, 3) := by decide +kernel
theorem d1_14 : decode prog_19_method_1_code 14 = .ok (.return_, 1) := by decide +kernel
theorem pn_1 : plainName "com/example/fir/fir/core/Decoder" = true := by first | (simp [plainName, overriddenIn]; done) | decide +kernel
theorem ef_rmI (m : MethodId) (x0 : Addr) (x1 : Addr) (x2 : Int32) : entryFrame m #[(.ref x0), (.ref x1), (.int x2)] 3 = mkF m 0 #[.val (.ref x0), .val (.ref x1), .val (.int x2)] [] := by first | (simp [entryFrame, mkF, argsToLocals, Value.category]; done) | rfl
def QI (Z : State) (a : Addr) (a1 : Addr) (p2 : Int32) (h0 : Heap) (n0 : Nat) (v : Option Value) (h : Heap) (L : List Loc) : Prop := v = none ∧ Fr n0 L ∧ Keep h0 h [a] ∧ Fld Z h a "com/example/fir/fir/core/Decoder" "bytes" "[B" (.ref a1) ∧ Fld Z h a "com/example/fir/fir/core/Decoder" "offset" "I" (.int p2)
set_option maxRecDepth 65536 in
set_option maxHeartbeats 40000000 in
theorem rmI (l : Launch) (Z : State) (a0 : Array Value) (hw : ∀ d ∈ tables_1, d.before a0 Z = true) (ws : List Jvm.Cond) (a : Addr) (a1 : Addr) (p2 : Int32) (h0 : Heap) (n0 : Nat) (Z0 : n0 ≤ h0.size) (E_a : Exa Z h0 a "com/example/fir/fir/core/Decoder") (F_bytes : Fld Z h0 a "com/example/fir/fir/core/Decoder" "bytes" "[B" .null) (F_offset : Fld Z h0 a "com/example/fir/fir/core/Decoder" "offset" "I" (.int (0 : Int32))) (g_a : n0 ≤ a) :
    MetFree l (⟨"com/example/fir/fir/core/Decoder", "<init>", "([BI)V"⟩ : MethodName) (head1 (Jvm.Cond.code (⟨"com/example/fir/fir/core/Decoder", "<init>", "([BI)V"⟩ : MethodName) prog_19_method_1_code 3 none :: ws) ({ frames := 1, cells := 0, slots := 0, locals := 12 } : Room)) (fun ar UU => ar = #[(.ref a), (.ref a1), (.int p2)] ∧ Z.Warmed39 UU.vm ∧ UU.heap = h0) (fun _ _ _ _ _ => True) (fun _ UU oo UU' => ∃ vv LL, oo = .returned vv ∧ QI Z a a1 p2 h0 n0 vv UU'.heap LL ∧ FrameEnd UU oo UU' LL ({ frames := 1, cells := 0, slots := 0, locals := 12 } : Room).cells ({ frames := 1, cells := 0, slots := 0, locals := 12 } : Room).slots) := by
  refine MetFree.of_bodySF (plainFor_of_name pn_1) hisR ?_
  intro p e s m args below meth c s₁ Bd hml0 hP hK
  obtain ⟨rfl, hZ, hh⟩ := hP
  have hx := Bd.exec
  have hby := Bd.bytes
  have hml : c.maxLocals = 3 := hml0
  have hown : s.vm.findClass "com/example/fir/fir/core/Decoder" = some m.cls := findClass_of_methodNamed Bd.named
  have hnm := (name_of_methodNamed Bd.named Bd.method).1
  have X0 : Stand p l e ({ frames := 1, cells := 0, slots := 0, locals := 12 } : Room) s m #[(.ref a), (.ref a1), (.int p2)] below meth c s₁ [] 0 0 := Stand.of_body Bd
  have e0 : s₁.heap = h0 := by rw [← hh, Bd.state]; rfl
  have N0 := Fr.nil n0
  have KC0 : Keep h0 h0 [a] := Keep.refl h0 [a]
  have pre0 : ∀ tgt, Steps p.tables e below (s₁.setTop (mkF m 0 #[.val (.ref a), .val (.ref a1), .val (.int p2)] [])) tgt → Steps p.tables e below (s₁.setTop (entryFrame m #[(.ref a), (.ref a1), (.int p2)] 3)) tgt := fun tgt kk => castTop (ef_rmI m (a) (a1) (p2)) kk
  have pre1 : ∀ tgt, Steps p.tables e below (s₁.setTop (mkF m 1 #[.val (.ref a), .val (.ref a1), .val (.int p2)] [(.ref a)])) tgt → Steps p.tables e below (s₁.setTop (entryFrame m #[(.ref a), (.ref a1), (.int p2)] 3)) tgt := by
    intro tgt kk
    refine pre0 tgt ?_
    refine XS.aloadN X0.here hx rfl (hb hby d1_0) rfl rfl ?_
    show Steps p.tables e below (s₁.setTop (mkF m 1 #[.val (.ref a), .val (.ref a1), .val (.int p2)] [(.ref a)])) _
    exact kk
  obtain ⟨T2, X2, e2, st2⟩ := initO X0 hx hZ hown (hw _ (List.mem_of_getElem? (i := 8) rfl)) (hw _ (List.mem_of_getElem? (i := 9) rfl)) (hw _ (List.mem_of_getElem? (i := 10) rfl)) e0 (g := (mkF m 1 #[.val (.ref a), .val (.ref a1), .val (.int p2)] [(.ref a)])) rfl (by rw [hml]; rfl) rfl (hb hby d1_1) (by decide) (W := 0) (by show 2 * 0 + _ ≤ _; exact Nat.le_of_eq rfl) (by decide)
  have pre3 : ∀ tgt, Steps p.tables e below (T2.setTop (mkF m 6 #[.val (.ref a), .val (.ref a1), .val (.int p2)] [(.ref a1), (.ref a)])) tgt → Steps p.tables e below (s₁.setTop (entryFrame m #[(.ref a), (.ref a1), (.int p2)] 3)) tgt := by
    intro tgt kk
    refine pre1 tgt ?_
    refine st2 _ ?_
    show Steps p.tables e below (T2.setTop (mkF m 4 #[.val (.ref a), .val (.ref a1), .val (.int p2)] [])) _
    refine XS.aloadN X2.here hx rfl (hb hby d1_4) rfl rfl ?_
    show Steps p.tables e below (T2.setTop (mkF m 5 #[.val (.ref a), .val (.ref a1), .val (.int p2)] [(.ref a)])) _
    refine XS.aloadN X2.here hx rfl (hb hby d1_5) rfl rfl ?_
    show Steps p.tables e below (T2.setTop (mkF m 6 #[.val (.ref a), .val (.ref a1), .val (.int p2)] [(.ref a1), (.ref a)])) _
    exact kk
  obtain ⟨T4, h4, X4, e4, W4, st4⟩ := putF X2 hx hZ hown (host := "") (Or.inl (hw _ (List.mem_of_getElem? (i := 11) rfl))) Via.refl e2 F_bytes E_a (Or.inr ⟨(hw _ (List.mem_of_getElem? (i := 12) rfl)), rfl, hnm⟩) (hw _ (List.mem_of_getElem? (i := 3) rfl)) (ty := (.array .byte)) (by decide) rfl rfl (g := (mkF m 6 #[.val (.ref a), .val (.ref a1), .val (.int p2)] [(.ref a1), (.ref a)])) rfl rfl (hb hby d1_6)
  have N4 := Fr.snoc X4 N0 g_a
  have Fq4 : Fld Z h4 a "com/example/fir/fir/core/Decoder" "bytes" "[B" (.ref a1) := F_bytes.same W4
  have E_a : Exa Z h4 a "com/example/fir/fir/core/Decoder" := E_a.wr W4
  have F_offset : Fld Z h4 a "com/example/fir/fir/core/Decoder" "offset" "I" (.int (0 : Int32)) := F_offset.other W4 (Or.inr (slot_ne (Or.inl (hw _ (List.mem_of_getElem? (i := 14) rfl))) (Or.inr (hw _ (List.mem_of_getElem? (i := 12) rfl))) (by decide) (t := .int) (t' := (.array .byte)) (by decide) (by decide)))
  have Zs5 : n0 ≤ h4.size := Nat.le_trans Z0 (Keep.of_wr W4).1
  have KC5 : Keep h0 h4 [a] := KC0.wr W4 (Or.inl (List.mem_of_getElem? (i := 0) rfl))
  have F_bytes := Fq4
  have pre6 : ∀ tgt, Steps p.tables e below (T4.setTop (mkF m 11 #[.val (.ref a), .val (.ref a1), .val (.int p2)] [(.int p2), (.ref a)])) tgt → Steps p.tables e below (s₁.setTop (entryFrame m #[(.ref a), (.ref a1), (.int p2)] 3)) tgt := by
    intro tgt kk
    refine pre3 tgt ?_
    refine st4 _ ?_
    show Steps p.tables e below (T4.setTop (mkF m 9 #[.val (.ref a), .val (.ref a1), .val (.int p2)] [])) _
    refine XS.aloadN X4.here hx rfl (hb hby d1_9) rfl rfl ?_
    show Steps p.tables e below (T4.setTop (mkF m 10 #[.val (.ref a), .val (.ref a1), .val (.int p2)] [(.ref a)])) _
    refine XS.iloadN X4.here hx rfl (hb hby d1_10) rfl ?_
    show Steps p.tables e below (T4.setTop (mkF m 11 #[.val (.ref a), .val (.ref a1), .val (.int p2)] [(.int p2), (.ref a)])) _
    exact kk
  obtain ⟨T7, h7, X7, e7, W7, st7⟩ := putF X4 hx hZ hown (host := "") (Or.inl (hw _ (List.mem_of_getElem? (i := 13) rfl))) Via.refl e4 F_offset E_a (Or.inl (hw _ (List.mem_of_getElem? (i := 14) rfl))) (hw _ (List.mem_of_getElem? (i := 3) rfl)) (ty := .int) (by decide) rfl rfl (g := (mkF m 11 #[.val (.ref a), .val (.ref a1), .val (.int p2)] [(.int p2), (.ref a)])) rfl rfl (hb hby d1_11)
  have N7 := Fr.snoc X7 N4 g_a
  have Fq7 : Fld Z h7 a "com/example/fir/fir/core/Decoder" "offset" "I" (.int p2) := F_offset.same W7
  have E_a : Exa Z h7 a "com/example/fir/fir/core/Decoder" := E_a.wr W7
  have F_bytes : Fld Z h7 a "com/example/fir/fir/core/Decoder" "bytes" "[B" (.ref a1) := F_bytes.other W7 (Or.inr (slot_ne (Or.inr (hw _ (List.mem_of_getElem? (i := 12) rfl))) (Or.inl (hw _ (List.mem_of_getElem? (i := 14) rfl))) (by decide) (t := (.array .byte)) (t' := .int) (by decide) (by decide)))
  have Zs8 : n0 ≤ h7.size := Nat.le_trans Zs5 (Keep.of_wr W7).1
  have KC8 : Keep h0 h7 [a] := KC5.wr W7 (Or.inl (List.mem_of_getElem? (i := 0) rfl))
  have F_offset := Fq7
  obtain ⟨fs, hr, hrun, hended, hW, hsame⟩ := X7.leave (v := none) (fun _ => rfl)
  refine ⟨_, _, pre6 _ ?_, hrun, hended, _, _, rfl, ?_, ⟨_, rfl⟩, hW, hsame.mono (by decide) (by decide)⟩
  · skip
    refine st7 _ ?_
    show Steps p.tables e below (T7.setTop (mkF m 14 #[.val (.ref a), .val (.ref a1), .val (.int p2)] [])) _
    exact X7.returnOut hx Bd.returns (hb hby d1_14) hr
  · show QI Z a a1 p2 h0 n0 _ T7.heap _
    rw [e7]
    exact ⟨rfl, N7, KC8, F_bytes, F_offset⟩
theorem d3_0 : decode prog_19_method_6_code 0 = .ok (.aload_n 0, 1) := by decide +kernel
theorem d3_1 : decode prog_19_method_6_code 1 = .ok (.getfield 13, 3) := by decide +kernel
theorem d3_4 : decode prog_19_method_6_code 4 = .ok (.aload_n 0, 1) := by decide +kernel
theorem d3_5 : decode prog_19_method_6_code 5 = .ok (.getfield 7, 3) := by decide +kernel
theorem d3_8 : decode prog_19_method_6_code 8 = .ok (.arraylength, 1) := by decide +kernel
theorem d3_9 : decode prog_19_method_6_code 9 = .ok (.if_icmp .ne 7, 3) := by decide +kernel
theorem d3_12 : decode prog_19_method_6_code 12 = .ok (.iconst 1, 1) := by decide +kernel
theorem d3_13 : decode prog_19_method_6_code 13 = .ok (.goto 4, 3) := by decide +kernel
theorem d3_16 : decode prog_19_method_6_code 16 = .ok (.iconst 0, 1) := by decide +kernel
theorem d3_17 : decode prog_19_method_6_code 17 = .ok (.ireturn, 1) := by decide +kernel
theorem pn_3 : plainName "com/example/fir/fir/core/Decoder" = true := by first | (simp [plainName, overriddenIn]; done) | decide +kernel
theorem ef_rmA (m : MethodId) (x0 : Addr) : entryFrame m #[(.ref x0)] 1 = mkF m 0 #[.val (.ref x0)] [] := by first | (simp [entryFrame, mkF, argsToLocals, Value.category]; done) | rfl
def QA (Z : State) (a : Addr) (a1 : Addr) (kA : ClassId) (o : Int32) (x0 : Int32) (x1 : Int32) (x2 : Int32) (h0 : Heap) (n0 : Nat) (v : Option Value) (h : Heap) (L : List Loc) : Prop := v = some (.int (bI (o = (3 : Int32)))) ∧ Fr n0 L ∧ h = h0
set_option maxRecDepth 65536 in
set_option maxHeartbeats 40000000 in
theorem rmA (l : Launch) (Z : State) (a0 : Array Value) (hw : ∀ d ∈ tables_1, d.before a0 Z = true) (ws : List Jvm.Cond) (a : Addr) (a1 : Addr) (kA : ClassId) (o : Int32) (x0 : Int32) (x1 : Int32) (x2 : Int32) (h0 : Heap) (n0 : Nat) (Z0 : n0 ≤ h0.size) (F_b : Fld Z h0 a "com/example/fir/fir/core/Decoder" "bytes" "[B" (.ref a1)) (F_o : Fld Z h0 a "com/example/fir/fir/core/Decoder" "offset" "I" (.int o)) (V_a1 : Arv Z h0 a1 kA .byte (3 : Int32) [(.int x0), (.int x1), (.int x2)] (.int (0 : Int32))) :
    MetFree l (⟨"com/example/fir/fir/core/Decoder", "atEnd", "()Z"⟩ : MethodName) (head1 (Jvm.Cond.code (⟨"com/example/fir/fir/core/Decoder", "atEnd", "()Z"⟩ : MethodName) prog_19_method_6_code 1 (some .boolean) :: ws) ({ frames := 0, cells := 0, slots := 0, locals := 0 } : Room)) (fun ar UU => ar = #[(.ref a)] ∧ Z.Warmed39 UU.vm ∧ UU.heap = h0) (fun _ _ _ _ _ => True) (fun _ UU oo UU' => ∃ vv LL, oo = .returned vv ∧ QA Z a a1 kA o x0 x1 x2 h0 n0 vv UU'.heap LL ∧ FrameEnd UU oo UU' LL ({ frames := 0, cells := 0, slots := 0, locals := 0 } : Room).cells ({ frames := 0, cells := 0, slots := 0, locals := 0 } : Room).slots) := by
  refine MetFree.of_bodySF (plainFor_of_name pn_3) hisR ?_
  intro p e s m args below meth c s₁ Bd hml0 hP hK
  obtain ⟨rfl, hZ, hh⟩ := hP
  have hx := Bd.exec
  have hby := Bd.bytes
  have hml : c.maxLocals = 1 := hml0
  have hown : s.vm.findClass "com/example/fir/fir/core/Decoder" = some m.cls := findClass_of_methodNamed Bd.named
  have hnm := (name_of_methodNamed Bd.named Bd.method).1
  have X0 : Stand p l e ({ frames := 0, cells := 0, slots := 0, locals := 0 } : Room) s m #[(.ref a)] below meth c s₁ [] 0 0 := Stand.of_body Bd
  have e0 : s₁.heap = h0 := by rw [← hh, Bd.state]; rfl
  have N0 := Fr.nil n0
  have KC0 : Keep h0 h0 [] := Keep.refl h0 []
  have pre0 : ∀ tgt, Steps p.tables e below (s₁.setTop (mkF m 0 #[.val (.ref a)] [])) tgt → Steps p.tables e below (s₁.setTop (entryFrame m #[(.ref a)] 1)) tgt := fun tgt kk => castTop (ef_rmA m (a)) kk
  have pre1 : ∀ tgt, Steps p.tables e below (s₁.setTop (mkF m 1 #[.val (.ref a)] [(.ref a)])) tgt → Steps p.tables e below (s₁.setTop (entryFrame m #[(.ref a)] 1)) tgt := by
    intro tgt kk
    refine pre0 tgt ?_
    refine XS.aloadN X0.here hx rfl (hb hby d3_0) rfl rfl ?_
    show Steps p.tables e below (s₁.setTop (mkF m 1 #[.val (.ref a)] [(.ref a)])) _
    exact kk
  obtain ⟨T2, X2, e2, st2⟩ := getF X0 hx hZ hown (host := "") (Or.inl (hw _ (List.mem_of_getElem? (i := 13) rfl))) Via.refl e0 F_o (g := (mkF m 1 #[.val (.ref a)] [(.ref a)])) rfl rfl (hb hby d3_1)
  have pre3 : ∀ tgt, Steps p.tables e below (T2.setTop (mkF m 5 #[.val (.ref a)] [(.ref a), (.int o)])) tgt → Steps p.tables e below (s₁.setTop (entryFrame m #[(.ref a)] 1)) tgt := by
    intro tgt kk
    refine pre1 tgt ?_
    refine st2 _ ?_
    show Steps p.tables e below (T2.setTop (mkF m 4 #[.val (.ref a)] [(.int o)])) _
    refine XS.aloadN X2.here hx rfl (hb hby d3_4) rfl rfl ?_
    show Steps p.tables e below (T2.setTop (mkF m 5 #[.val (.ref a)] [(.ref a), (.int o)])) _
    exact kk
  obtain ⟨T4, X4, e4, st4⟩ := getF X2 hx hZ hown (host := "") (Or.inl (hw _ (List.mem_of_getElem? (i := 11) rfl))) Via.refl e2 F_b (g := (mkF m 5 #[.val (.ref a)] [(.ref a), (.int o)])) rfl rfl (hb hby d3_5)
  have pre5 : ∀ tgt, Steps p.tables e below (T4.setTop (mkF m 8 #[.val (.ref a)] [(.ref a1), (.int o)])) tgt → Steps p.tables e below (s₁.setTop (entryFrame m #[(.ref a)] 1)) tgt := by
    intro tgt kk
    refine pre3 tgt ?_
    refine st4 _ ?_
    show Steps p.tables e below (T4.setTop (mkF m 8 #[.val (.ref a)] [(.ref a1), (.int o)])) _
    exact kk
  obtain ⟨cl6, Ar6, aq6, aS6, aN6, aH6, aG6⟩ := id V_a1
  have pre7 : ∀ tgt, Steps p.tables e below (T4.setTop (mkF m 9 #[.val (.ref a)] [(.int (3 : Int32)), (.int o)])) tgt → Steps p.tables e below (s₁.setTop (entryFrame m #[(.ref a)] 1)) tgt := by
    intro tgt kk
    refine pre5 tgt ?_
    refine X4.arraylength hx (by rw [e4]; exact Ar6.1) (State.isArrayOf_alike hZ.alike Ar6.2.1) (g := (mkF m 8 #[.val (.ref a)] [(.ref a1), (.int o)])) rfl rfl (hb hby d3_8) _ ?_
    rw [len_of aS6 aN6]
    show Steps p.tables e below (T4.setTop (mkF m 9 #[.val (.ref a)] [(.int (3 : Int32)), (.int o)])) _
    exact kk
  obtain ⟨T9, lo9, X9, N9, e9, pre9⟩ : ∃ (T' : State) (lo : List Loc), Stand p l e ({ frames := 0, cells := 0, slots := 0, locals := 0 } : Room) s m #[(.ref a)] below meth c T' lo 0 0 ∧ Fr n0 lo ∧ T'.heap = h0 ∧ ∀ tgt, Steps p.tables e below (T'.setTop (mkF m 17 #[.val (.ref a)] [(.int (bI (o = (3 : Int32))))])) tgt → Steps p.tables e below (s₁.setTop (entryFrame m #[(.ref a)] 1)) tgt := by
    by_cases hc9_8 : o = (3 : Int32)
    · skip
      refine ⟨T4, _, X4, N0, e4, fun tgt kk => ?_⟩
      have kq10 : ((.int (bI (o = (3 : Int32)))) : Value) = (.int (1 : Int32)) := (congrArg Value.int (bI_t hc9_8))
      rw [kq10] at kk
      refine pre7 tgt ?_
      refine XS.icmpNo X4.here hx rfl (hb hby d3_9) rfl (XT.ii_ne_f hc9_8) ?_
      show Steps p.tables e below (T4.setTop (mkF m 12 #[.val (.ref a)] [])) _
      refine XS.iconst X4.here hx rfl (hb hby d3_12) ?_
      show Steps p.tables e below (T4.setTop (mkF m 13 #[.val (.ref a)] [(.int (1 : Int32))])) _
      refine XS.goto X4.here hx rfl (pc0 := 13) (pc' := 17) rfl (hb hby d3_13) (by decide) (by decide) ?_
      show Steps p.tables e below (T4.setTop (mkF m 17 #[.val (.ref a)] [(.int (1 : Int32))])) _
      exact kk
    · skip
      refine ⟨T4, _, X4, N0, e4, fun tgt kk => ?_⟩
      have kq11 : ((.int (bI (o = (3 : Int32)))) : Value) = (.int (0 : Int32)) := (congrArg Value.int (bI_f hc9_8))
      rw [kq11] at kk
      refine pre7 tgt ?_
      refine XS.icmpYes X4.here hx rfl (pc0 := 9) (pc' := 16) rfl (hb hby d3_9) rfl (XT.ii_ne_t hc9_8) (by decide) (by decide) ?_
      show Steps p.tables e below (T4.setTop (mkF m 16 #[.val (.ref a)] [])) _
      refine XS.iconst X4.here hx rfl (hb hby d3_16) ?_
      show Steps p.tables e below (T4.setTop (mkF m 17 #[.val (.ref a)] [(.int (0 : Int32))])) _
      exact kk
  obtain ⟨fs, hr, hrun, hended, hW, hsame⟩ := X9.leave (v := some (.int (nar .boolean (bI (o = (3 : Int32)))))) (fun h => by rw [Bd.returns] at h; cases h)
  refine ⟨_, _, pre9 _ ?_, hrun, hended, _, _, rfl, ?_, ⟨_, rfl⟩, hW, hsame.mono (by decide) (by decide)⟩
  · skip
    exact retN X9 hx (t := .boolean) Bd.returns (by simp) (hb hby d3_17) hr
  · show QA Z a a1 kA o x0 x1 x2 h0 n0 _ T9.heap _
    rw [e9]
    exact ⟨bI_ret, N9, rfl⟩
theorem d4_0 : decode prog_19_method_2_code 0 = .ok (.aload_n 0, 1) := by decide +kernel
theorem d4_1 : decode prog_19_method_2_code 1 = .ok (.getfield 7, 3) := by decide +kernel
theorem d4_4 : decode prog_19_method_2_code 4 = .ok (.aload_n 0, 1) := by decide +kernel
theorem d4_5 : decode prog_19_method_2_code 5 = .ok (.dup, 1) := by decide +kernel
theorem d4_6 : decode prog_19_method_2_code 6 = .ok (.getfield 13, 3) := by decide +kernel
theorem d4_9 : decode prog_19_method_2_code 9 = .ok (.dup_x1, 1) := by decide +kernel
theorem d4_10 : decode prog_19_method_2_code 10 = .ok (.iconst 1, 1) := by decide +kernel
theorem d4_11 : decode prog_19_method_2_code 11 = .ok (.iadd, 1) := by decide +kernel
theorem d4_12 : decode prog_19_method_2_code 12 = .ok (.putfield 13, 3) := by decide +kernel
theorem d4_15 : decode prog_19_method_2_code 15 = .ok (.baload, 1) := by decide +kernel
theorem d4_16 : decode prog_19_method_2_code 16 = .ok (.sipush 255, 3) := by decide +kernel
theorem d4_19 : decode prog_19_method_2_code 19 = .ok (.iand, 1) := by decide +kernel
theorem d4_20 : decode prog_19_method_2_code 20 = .ok (.ireturn, 1) := by decide +kernel
theorem pn_4 : plainName "com/example/fir/fir/core/Decoder" = true := by first | (simp [plainName, overriddenIn]; done) | decide +kernel
theorem ef_rmR (m : MethodId) (x0 : Addr) : entryFrame m #[(.ref x0)] 1 = mkF m 0 #[.val (.ref x0)] [] := by first | (simp [entryFrame, mkF, argsToLocals, Value.category]; done) | rfl
def QR (Z : State) (a : Addr) (a1 : Addr) (kA : ClassId) (o : Int32) (x0 : Int32) (x1 : Int32) (x2 : Int32) (h0 : Heap) (n0 : Nat) (v : Option Value) (h : Heap) (L : List Loc) : Prop := v = some (.int ((own_el o x0 x1 x2) &&& (255 : Int32))) ∧ Fr n0 L ∧ Keep h0 h [a] ∧ Fld Z h a "com/example/fir/fir/core/Decoder" "bytes" "[B" (.ref a1) ∧ Fld Z h a "com/example/fir/fir/core/Decoder" "offset" "I" (.int (o + (1 : Int32)))
set_option maxRecDepth 65536 in
set_option maxHeartbeats 40000000 in
theorem rmR (l : Launch) (Z : State) (a0 : Array Value) (hw : ∀ d ∈ tables_1, d.before a0 Z = true) (ws : List Jvm.Cond) (a : Addr) (a1 : Addr) (kA : ClassId) (o : Int32) (x0 : Int32) (x1 : Int32) (x2 : Int32) (h0 : Heap) (n0 : Nat) (Z0 : n0 ≤ h0.size) (E_a : Exa Z h0 a "com/example/fir/fir/core/Decoder") (F_b : Fld Z h0 a "com/example/fir/fir/core/Decoder" "bytes" "[B" (.ref a1)) (F_o : Fld Z h0 a "com/example/fir/fir/core/Decoder" "offset" "I" (.int o)) (V_a1 : Arv Z h0 a1 kA .byte (3 : Int32) [(.int x0), (.int x1), (.int x2)] (.int (0 : Int32))) (g_a : n0 ≤ a) (hne : a1 ≠ a) (hr : o = 0 ∨ o = 1 ∨ o = 2) :
    MetFree l (⟨"com/example/fir/fir/core/Decoder", "readByte", "()I"⟩ : MethodName) (head1 (Jvm.Cond.code (⟨"com/example/fir/fir/core/Decoder", "readByte", "()I"⟩ : MethodName) prog_19_method_2_code 1 (some .int) :: ws) ({ frames := 0, cells := 0, slots := 0, locals := 0 } : Room)) (fun ar UU => ar = #[(.ref a)] ∧ Z.Warmed39 UU.vm ∧ UU.heap = h0) (fun _ _ _ _ _ => True) (fun _ UU oo UU' => ∃ vv LL, oo = .returned vv ∧ QR Z a a1 kA o x0 x1 x2 h0 n0 vv UU'.heap LL ∧ FrameEnd UU oo UU' LL ({ frames := 0, cells := 0, slots := 0, locals := 0 } : Room).cells ({ frames := 0, cells := 0, slots := 0, locals := 0 } : Room).slots) := by
  refine MetFree.of_bodySF (plainFor_of_name pn_4) hisR ?_
  intro p e s m args below meth c s₁ Bd hml0 hP hK
  obtain ⟨rfl, hZ, hh⟩ := hP
  have hx := Bd.exec
  have hby := Bd.bytes
  have hml : c.maxLocals = 1 := hml0
  have hown : s.vm.findClass "com/example/fir/fir/core/Decoder" = some m.cls := findClass_of_methodNamed Bd.named
  have hnm := (name_of_methodNamed Bd.named Bd.method).1
  have X0 : Stand p l e ({ frames := 0, cells := 0, slots := 0, locals := 0 } : Room) s m #[(.ref a)] below meth c s₁ [] 0 0 := Stand.of_body Bd
  have e0 : s₁.heap = h0 := by rw [← hh, Bd.state]; rfl
  have N0 := Fr.nil n0
  have KC0 : Keep h0 h0 [a] := Keep.refl h0 [a]
  have pre0 : ∀ tgt, Steps p.tables e below (s₁.setTop (mkF m 0 #[.val (.ref a)] [])) tgt → Steps p.tables e below (s₁.setTop (entryFrame m #[(.ref a)] 1)) tgt := fun tgt kk => castTop (ef_rmR m (a)) kk
  have pre1 : ∀ tgt, Steps p.tables e below (s₁.setTop (mkF m 1 #[.val (.ref a)] [(.ref a)])) tgt → Steps p.tables e below (s₁.setTop (entryFrame m #[(.ref a)] 1)) tgt := by
    intro tgt kk
    refine pre0 tgt ?_
    refine XS.aloadN X0.here hx rfl (hb hby d4_0) rfl rfl ?_
    show Steps p.tables e below (s₁.setTop (mkF m 1 #[.val (.ref a)] [(.ref a)])) _
    exact kk
  obtain ⟨T2, X2, e2, st2⟩ := getF X0 hx hZ hown (host := "") (Or.inl (hw _ (List.mem_of_getElem? (i := 11) rfl))) Via.refl e0 F_b (g := (mkF m 1 #[.val (.ref a)] [(.ref a)])) rfl rfl (hb hby d4_1)
  have pre3 : ∀ tgt, Steps p.tables e below (T2.setTop (mkF m 6 #[.val (.ref a)] [(.ref a), (.ref a), (.ref a1)])) tgt → Steps p.tables e below (s₁.setTop (entryFrame m #[(.ref a)] 1)) tgt := by
    intro tgt kk
    refine pre1 tgt ?_
    refine st2 _ ?_
    show Steps p.tables e below (T2.setTop (mkF m 4 #[.val (.ref a)] [(.ref a1)])) _
    refine XS.aloadN X2.here hx rfl (hb hby d4_4) rfl rfl ?_
    show Steps p.tables e below (T2.setTop (mkF m 5 #[.val (.ref a)] [(.ref a), (.ref a1)])) _
    refine XS.dup X2.here hx rfl (hb hby d4_5) rfl rfl ?_
    show Steps p.tables e below (T2.setTop (mkF m 6 #[.val (.ref a)] [(.ref a), (.ref a), (.ref a1)])) _
    exact kk
  obtain ⟨T4, X4, e4, st4⟩ := getF X2 hx hZ hown (host := "") (Or.inl (hw _ (List.mem_of_getElem? (i := 13) rfl))) Via.refl e2 F_o (g := (mkF m 6 #[.val (.ref a)] [(.ref a), (.ref a), (.ref a1)])) rfl rfl (hb hby d4_6)
  have pre5 : ∀ tgt, Steps p.tables e below (T4.setTop (mkF m 12 #[.val (.ref a)] [(.int (o + (1 : Int32))), (.ref a), (.int o), (.ref a1)])) tgt → Steps p.tables e below (s₁.setTop (entryFrame m #[(.ref a)] 1)) tgt := by
    intro tgt kk
    refine pre3 tgt ?_
    refine st4 _ ?_
    show Steps p.tables e below (T4.setTop (mkF m 9 #[.val (.ref a)] [(.int o), (.ref a), (.ref a1)])) _
    refine XS.dupX1 X4.here hx rfl (hb hby d4_9) rfl rfl rfl ?_
    show Steps p.tables e below (T4.setTop (mkF m 10 #[.val (.ref a)] [(.int o), (.ref a), (.int o), (.ref a1)])) _
    refine XS.iconst X4.here hx rfl (hb hby d4_10) ?_
    show Steps p.tables e below (T4.setTop (mkF m 11 #[.val (.ref a)] [(.int (1 : Int32)), (.int o), (.ref a), (.int o), (.ref a1)])) _
    refine XS.iadd X4.here hx rfl (hb hby d4_11) rfl ?_
    show Steps p.tables e below (T4.setTop (mkF m 12 #[.val (.ref a)] [(.int (o + (1 : Int32))), (.ref a), (.int o), (.ref a1)])) _
    exact kk
  obtain ⟨T6, h6, X6, e6, W6, st6⟩ := putF X4 hx hZ hown (host := "") (Or.inl (hw _ (List.mem_of_getElem? (i := 13) rfl))) Via.refl e4 F_o E_a (Or.inl (hw _ (List.mem_of_getElem? (i := 14) rfl))) (hw _ (List.mem_of_getElem? (i := 3) rfl)) (ty := .int) (by decide) rfl rfl (g := (mkF m 12 #[.val (.ref a)] [(.int (o + (1 : Int32))), (.ref a), (.int o), (.ref a1)])) rfl rfl (hb hby d4_12)
  have N6 := Fr.snoc X6 N0 g_a
  have Fq6 : Fld Z h6 a "com/example/fir/fir/core/Decoder" "offset" "I" (.int (o + (1 : Int32))) := F_o.same W6
  have E_a : Exa Z h6 a "com/example/fir/fir/core/Decoder" := E_a.wr W6
  have F_b : Fld Z h6 a "com/example/fir/fir/core/Decoder" "bytes" "[B" (.ref a1) := F_b.other W6 (Or.inr (slot_ne (Or.inr (hw _ (List.mem_of_getElem? (i := 12) rfl))) (Or.inl (hw _ (List.mem_of_getElem? (i := 14) rfl))) (by decide) (t := (.array .byte)) (t' := .int) (by decide) (by decide)))
  have V_a1 : Arv Z h6 a1 kA .byte (3 : Int32) [(.int x0), (.int x1), (.int x2)] (.int (0 : Int32)) := V_a1.other W6 hne
  have Zs7 : n0 ≤ h6.size := Nat.le_trans Z0 (Keep.of_wr W6).1
  have KC7 : Keep h0 h6 [a] := KC0.wr W6 (Or.inl (List.mem_of_getElem? (i := 0) rfl))
  have F_o := Fq6
  have pre8 : ∀ tgt, Steps p.tables e below (T6.setTop (mkF m 15 #[.val (.ref a)] [(.int o), (.ref a1)])) tgt → Steps p.tables e below (s₁.setTop (entryFrame m #[(.ref a)] 1)) tgt := by
    intro tgt kk
    refine pre5 tgt ?_
    refine st6 _ ?_
    show Steps p.tables e below (T6.setTop (mkF m 15 #[.val (.ref a)] [(.int o), (.ref a1)])) _
    exact kk
  obtain ⟨cl9, Ar9, aq9, aS9, aN9, aH9, aG9⟩ := id V_a1
  have hin10 : ¬ (o < 0 ∨ cl9.slots.size ≤ (o).toNatClampNeg) := inb_of aS9 (own_in hr)
  have hat10 : cl9.slots[(o).toNatClampNeg]? = some (.int (own_el o x0 x1 x2)) := Has.at aH9 hin10 (own_el_at hr)
  obtain ⟨fs, hr, hrun, hended, hW, hsame⟩ := X6.leave (v := some (.int ((own_el o x0 x1 x2) &&& (255 : Int32)))) (fun h => by rw [Bd.returns] at h; cases h)
  refine ⟨_, _, pre8 _ ?_, hrun, hended, _, _, rfl, ?_, ⟨_, rfl⟩, hW, hsame.mono (by decide) (by decide)⟩
  · skip
    refine X6.baloadBytes hx (j := o) (v := (.int (own_el o x0 x1 x2))) (by rw [e6]; exact Ar9.1) (State.isArrayOf_alike hZ.alike Ar9.2.1) Ar9.2.2 hin10 hat10 (g := (mkF m 15 #[.val (.ref a)] [(.int o), (.ref a1)])) rfl rfl (hb hby d4_15) _ ?_
    show Steps p.tables e below (T6.setTop (mkF m 16 #[.val (.ref a)] [(.int (own_el o x0 x1 x2))])) _
    refine XS.sipush X6.here hx rfl (hb hby d4_16) ?_
    show Steps p.tables e below (T6.setTop (mkF m 19 #[.val (.ref a)] [(.int (255 : Int32)), (.int (own_el o x0 x1 x2))])) _
    refine XS.iand X6.here hx rfl (hb hby d4_19) rfl ?_
    show Steps p.tables e below (T6.setTop (mkF m 20 #[.val (.ref a)] [(.int ((own_el o x0 x1 x2) &&& (255 : Int32)))])) _
    exact retI X6 hx Bd.returns (hb hby d4_20) hr
  · show QR Z a a1 kA o x0 x1 x2 h0 n0 _ T6.heap _
    rw [e6]
    exact ⟨rfl, N6, KC7, F_b, F_o⟩
theorem d5_0 : decode method_3_code 0 = .ok (.iload_n 0, 1) := by decide +kernel
theorem d5_1 : decode method_3_code 1 = .ok (.ifCond .ne 5, 3) := by decide +kernel
theorem d5_4 : decode method_3_code 4 = .ok (.iload_n 1, 1) := by decide +kernel
theorem d5_5 : decode method_3_code 5 = .ok (.ireturn, 1) := by decide +kernel
theorem d5_6 : decode method_3_code 6 = .ok (.iload_n 0, 1) := by decide +kernel
theorem d5_7 : decode method_3_code 7 = .ok (.iconst 1, 1) := by decide +kernel
theorem d5_8 : decode method_3_code 8 = .ok (.if_icmp .ne 5, 3) := by decide +kernel
theorem d5_11 : decode method_3_code 11 = .ok (.iload_n 2, 1) := by decide +kernel
theorem d5_12 : decode method_3_code 12 = .ok (.ireturn, 1) := by decide +kernel
theorem d5_13 : decode method_3_code 13 = .ok (.iload_n 3, 1) := by decide +kernel
theorem d5_14 : decode method_3_code 14 = .ok (.ireturn, 1) := by decide +kernel
theorem pn_5 : plainName "com/example/fir/fir/core/DecoderReadBytePinLaw" = true := by first | (simp [plainName, overriddenIn]; done) | decide +kernel
theorem ef_rmP (m : MethodId) (x0 : Int32) (x1 : Int32) (x2 : Int32) (x3 : Int32) : entryFrame m #[(.int x0), (.int x1), (.int x2), (.int x3)] 4 = mkF m 0 #[.val (.int x0), .val (.int x1), .val (.int x2), .val (.int x3)] [] := by first | (simp [entryFrame, mkF, argsToLocals, Value.category]; done) | rfl
def QP (Z : State) (i : Int32) (x0 : Int32) (x1 : Int32) (x2 : Int32) (h0 : Heap) (n0 : Nat) (v : Option Value) (h : Heap) (L : List Loc) : Prop := v = some (.int (own_pick i x0 x1 x2)) ∧ Fr n0 L ∧ h = h0
set_option maxRecDepth 65536 in
set_option maxHeartbeats 40000000 in
theorem rmP (l : Launch) (Z : State) (a0 : Array Value) (hw : ∀ d ∈ tables_1, d.before a0 Z = true) (ws : List Jvm.Cond) (i : Int32) (x0 : Int32) (x1 : Int32) (x2 : Int32) (h0 : Heap) (n0 : Nat) (Z0 : n0 ≤ h0.size) :
    MetFree l (⟨"com/example/fir/fir/core/DecoderReadBytePinLaw", "pick", "(IIII)I"⟩ : MethodName) (head1 (Jvm.Cond.code (⟨"com/example/fir/fir/core/DecoderReadBytePinLaw", "pick", "(IIII)I"⟩ : MethodName) method_3_code 4 (some .int) :: ws) ({ frames := 0, cells := 0, slots := 0, locals := 0 } : Room)) (fun ar UU => ar = #[(.int i), (.int x0), (.int x1), (.int x2)] ∧ Z.Warmed39 UU.vm ∧ UU.heap = h0) (fun _ _ _ _ _ => True) (fun _ UU oo UU' => ∃ vv LL, oo = .returned vv ∧ QP Z i x0 x1 x2 h0 n0 vv UU'.heap LL ∧ FrameEnd UU oo UU' LL ({ frames := 0, cells := 0, slots := 0, locals := 0 } : Room).cells ({ frames := 0, cells := 0, slots := 0, locals := 0 } : Room).slots) := by
  refine MetFree.of_bodySF (plainFor_of_name pn_5) hisR ?_
  intro p e s m args below meth c s₁ Bd hml0 hP hK
  obtain ⟨rfl, hZ, hh⟩ := hP
  have hx := Bd.exec
  have hby := Bd.bytes
  have hml : c.maxLocals = 4 := hml0
  have hown : s.vm.findClass "com/example/fir/fir/core/DecoderReadBytePinLaw" = some m.cls := findClass_of_methodNamed Bd.named
  have hnm := (name_of_methodNamed Bd.named Bd.method).1
  have X0 : Stand p l e ({ frames := 0, cells := 0, slots := 0, locals := 0 } : Room) s m #[(.int i), (.int x0), (.int x1), (.int x2)] below meth c s₁ [] 0 0 := Stand.of_body Bd
  have e0 : s₁.heap = h0 := by rw [← hh, Bd.state]; rfl
  have N0 := Fr.nil n0
  have KC0 : Keep h0 h0 [] := Keep.refl h0 []
  have pre0 : ∀ tgt, Steps p.tables e below (s₁.setTop (mkF m 0 #[.val (.int i), .val (.int x0), .val (.int x1), .val (.int x2)] [])) tgt → Steps p.tables e below (s₁.setTop (entryFrame m #[(.int i), (.int x0), (.int x1), (.int x2)] 4)) tgt := fun tgt kk => castTop (ef_rmP m (i) (x0) (x1) (x2)) kk
  have pre1 : ∀ tgt, Steps p.tables e below (s₁.setTop (mkF m 1 #[.val (.int i), .val (.int x0), .val (.int x1), .val (.int x2)] [(.int i)])) tgt → Steps p.tables e below (s₁.setTop (entryFrame m #[(.int i), (.int x0), (.int x1), (.int x2)] 4)) tgt := by
    intro tgt kk
    refine pre0 tgt ?_
    refine XS.iloadN X0.here hx rfl (hb hby d5_0) rfl ?_
    show Steps p.tables e below (s₁.setTop (mkF m 1 #[.val (.int i), .val (.int x0), .val (.int x1), .val (.int x2)] [(.int i)])) _
    exact kk
  by_cases hc1_2 : i = (0 : Int32)
  · skip
    obtain ⟨fs, hr, hrun, hended, hW, hsame⟩ := X0.leave (v := some (.int x0)) (fun h => by rw [Bd.returns] at h; cases h)
    refine ⟨_, _, pre1 _ ?_, hrun, hended, _, _, rfl, ?_, ⟨_, rfl⟩, hW, hsame.mono (by decide) (by decide)⟩
    · skip
      refine XS.ifNo X0.here hx rfl (hb hby d5_1) rfl (XT.i0_ne_f hc1_2) ?_
      show Steps p.tables e below (s₁.setTop (mkF m 4 #[.val (.int i), .val (.int x0), .val (.int x1), .val (.int x2)] [])) _
      refine XS.iloadN X0.here hx rfl (hb hby d5_4) rfl ?_
      show Steps p.tables e below (s₁.setTop (mkF m 5 #[.val (.int i), .val (.int x0), .val (.int x1), .val (.int x2)] [(.int x0)])) _
      exact retI X0 hx Bd.returns (hb hby d5_5) hr
    · show QP Z i x0 x1 x2 h0 n0 _ s₁.heap _
      rw [e0]
      exact ⟨by simp [own_pick, hc1_2], N0, rfl⟩
  · skip
    have pre3 : ∀ tgt, Steps p.tables e below (s₁.setTop (mkF m 8 #[.val (.int i), .val (.int x0), .val (.int x1), .val (.int x2)] [(.int (1 : Int32)), (.int i)])) tgt → Steps p.tables e below (s₁.setTop (entryFrame m #[(.int i), (.int x0), (.int x1), (.int x2)] 4)) tgt := by
      intro tgt kk
      refine pre1 tgt ?_
      refine XS.ifYes X0.here hx rfl (pc0 := 1) (pc' := 6) rfl (hb hby d5_1) rfl (XT.i0_ne_t hc1_2) (by decide) (by decide) ?_
      show Steps p.tables e below (s₁.setTop (mkF m 6 #[.val (.int i), .val (.int x0), .val (.int x1), .val (.int x2)] [])) _
      refine XS.iloadN X0.here hx rfl (hb hby d5_6) rfl ?_
      show Steps p.tables e below (s₁.setTop (mkF m 7 #[.val (.int i), .val (.int x0), .val (.int x1), .val (.int x2)] [(.int i)])) _
      refine XS.iconst X0.here hx rfl (hb hby d5_7) ?_
      show Steps p.tables e below (s₁.setTop (mkF m 8 #[.val (.int i), .val (.int x0), .val (.int x1), .val (.int x2)] [(.int (1 : Int32)), (.int i)])) _
      exact kk
    by_cases hc8_4 : i = (1 : Int32)
    · skip
      obtain ⟨fs, hr, hrun, hended, hW, hsame⟩ := X0.leave (v := some (.int x1)) (fun h => by rw [Bd.returns] at h; cases h)
      refine ⟨_, _, pre3 _ ?_, hrun, hended, _, _, rfl, ?_, ⟨_, rfl⟩, hW, hsame.mono (by decide) (by decide)⟩
      · skip
        refine XS.icmpNo X0.here hx rfl (hb hby d5_8) rfl (XT.ii_ne_f hc8_4) ?_
        show Steps p.tables e below (s₁.setTop (mkF m 11 #[.val (.int i), .val (.int x0), .val (.int x1), .val (.int x2)] [])) _
        refine XS.iloadN X0.here hx rfl (hb hby d5_11) rfl ?_
        show Steps p.tables e below (s₁.setTop (mkF m 12 #[.val (.int i), .val (.int x0), .val (.int x1), .val (.int x2)] [(.int x1)])) _
        exact retI X0 hx Bd.returns (hb hby d5_12) hr
      · show QP Z i x0 x1 x2 h0 n0 _ s₁.heap _
        rw [e0]
        exact ⟨by simp [own_pick, hc1_2, hc8_4], N0, rfl⟩
    · skip
      obtain ⟨fs, hr, hrun, hended, hW, hsame⟩ := X0.leave (v := some (.int x2)) (fun h => by rw [Bd.returns] at h; cases h)
      refine ⟨_, _, pre3 _ ?_, hrun, hended, _, _, rfl, ?_, ⟨_, rfl⟩, hW, hsame.mono (by decide) (by decide)⟩
      · skip
        refine XS.icmpYes X0.here hx rfl (pc0 := 8) (pc' := 13) rfl (hb hby d5_8) rfl (XT.ii_ne_t hc8_4) (by decide) (by decide) ?_
        show Steps p.tables e below (s₁.setTop (mkF m 13 #[.val (.int i), .val (.int x0), .val (.int x1), .val (.int x2)] [])) _
        refine XS.iloadN X0.here hx rfl (hb hby d5_13) rfl ?_
        show Steps p.tables e below (s₁.setTop (mkF m 14 #[.val (.int i), .val (.int x0), .val (.int x1), .val (.int x2)] [(.int x2)])) _
        exact retI X0 hx Bd.returns (hb hby d5_14) hr
      · show QP Z i x0 x1 x2 h0 n0 _ s₁.heap _
        rw [e0]
        exact ⟨by simp [own_pick, hc1_2, hc8_4], N0, rfl⟩
theorem d6_0 : decode method_2_code 0 = .ok (.iload_n 0, 1) := by decide +kernel
theorem d6_1 : decode method_2_code 1 = .ok (.i2b, 1) := by decide +kernel
theorem d6_2 : decode method_2_code 2 = .ok (.istore_n 1, 1) := by decide +kernel
theorem d6_3 : decode method_2_code 3 = .ok (.iload_n 1, 1) := by decide +kernel
theorem d6_4 : decode method_2_code 4 = .ok (.ifCond .ge 9, 3) := by decide +kernel
theorem d6_7 : decode method_2_code 7 = .ok (.iload_n 1, 1) := by decide +kernel
theorem d6_8 : decode method_2_code 8 = .ok (.sipush 256, 3) := by decide +kernel
theorem d6_11 : decode method_2_code 11 = .ok (.iadd, 1) := by decide +kernel
theorem d6_12 : decode method_2_code 12 = .ok (.istore_n 1, 1) := by decide +kernel
theorem d6_13 : decode method_2_code 13 = .ok (.iload_n 1, 1) := by decide +kernel
theorem d6_14 : decode method_2_code 14 = .ok (.ireturn, 1) := by decide +kernel
theorem pn_6 : plainName "com/example/fir/fir/core/DecoderReadBytePinLaw" = true := by first | (simp [plainName, overriddenIn]; done) | decide +kernel
theorem ef_rmF (m : MethodId) (x0 : Int32) : entryFrame m #[(.int x0)] 2 = mkF m 0 #[.val (.int x0), .unset] [] := by first | (simp [entryFrame, mkF, argsToLocals, Value.category]; done) | rfl
def QF (Z : State) (x : Int32) (h0 : Heap) (n0 : Nat) (v : Option Value) (h : Heap) (L : List Loc) : Prop := v = some (.int (own_ref x)) ∧ Fr n0 L ∧ h = h0
set_option maxRecDepth 65536 in
set_option maxHeartbeats 40000000 in
theorem rmF (l : Launch) (Z : State) (a0 : Array Value) (hw : ∀ d ∈ tables_1, d.before a0 Z = true) (ws : List Jvm.Cond) (x : Int32) (h0 : Heap) (n0 : Nat) (Z0 : n0 ≤ h0.size) :
    MetFree l (⟨"com/example/fir/fir/core/DecoderReadBytePinLaw", "ref", "(I)I"⟩ : MethodName) (head1 (Jvm.Cond.code (⟨"com/example/fir/fir/core/DecoderReadBytePinLaw", "ref", "(I)I"⟩ : MethodName) method_2_code 2 (some .int) :: ws) ({ frames := 0, cells := 0, slots := 0, locals := 0 } : Room)) (fun ar UU => ar = #[(.int x)] ∧ Z.Warmed39 UU.vm ∧ UU.heap = h0) (fun _ _ _ _ _ => True) (fun _ UU oo UU' => ∃ vv LL, oo = .returned vv ∧ QF Z x h0 n0 vv UU'.heap LL ∧ FrameEnd UU oo UU' LL ({ frames := 0, cells := 0, slots := 0, locals := 0 } : Room).cells ({ frames := 0, cells := 0, slots := 0, locals := 0 } : Room).slots) := by
  refine MetFree.of_bodySF (plainFor_of_name pn_6) hisR ?_
  intro p e s m args below meth c s₁ Bd hml0 hP hK
  obtain ⟨rfl, hZ, hh⟩ := hP
  have hx := Bd.exec
  have hby := Bd.bytes
  have hml : c.maxLocals = 2 := hml0
  have hown : s.vm.findClass "com/example/fir/fir/core/DecoderReadBytePinLaw" = some m.cls := findClass_of_methodNamed Bd.named
  have hnm := (name_of_methodNamed Bd.named Bd.method).1
  have X0 : Stand p l e ({ frames := 0, cells := 0, slots := 0, locals := 0 } : Room) s m #[(.int x)] below meth c s₁ [] 0 0 := Stand.of_body Bd
  have e0 : s₁.heap = h0 := by rw [← hh, Bd.state]; rfl
  have N0 := Fr.nil n0
  have KC0 : Keep h0 h0 [] := Keep.refl h0 []
  have pre0 : ∀ tgt, Steps p.tables e below (s₁.setTop (mkF m 0 #[.val (.int x), .unset] [])) tgt → Steps p.tables e below (s₁.setTop (entryFrame m #[(.int x)] 2)) tgt := fun tgt kk => castTop (ef_rmF m (x)) kk
  have pre1 : ∀ tgt, Steps p.tables e below (s₁.setTop (mkF m 4 #[.val (.int x), .val (.int x.toInt8.toInt32)] [(.int x.toInt8.toInt32)])) tgt → Steps p.tables e below (s₁.setTop (entryFrame m #[(.int x)] 2)) tgt := by
    intro tgt kk
    refine pre0 tgt ?_
    refine XS.iloadN X0.here hx rfl (hb hby d6_0) rfl ?_
    show Steps p.tables e below (s₁.setTop (mkF m 1 #[.val (.int x), .unset] [(.int x)])) _
    refine XS.i2b X0.here hx rfl (hb hby d6_1) rfl ?_
    show Steps p.tables e below (s₁.setTop (mkF m 2 #[.val (.int x), .unset] [(.int x.toInt8.toInt32)])) _
    refine XS.istoreN X0.here hx rfl (hb hby d6_2) rfl (l' := #[.val (.int x), .val (.int x.toInt8.toInt32)]) rfl ?_
    show Steps p.tables e below (s₁.setTop (mkF m 3 #[.val (.int x), .val (.int x.toInt8.toInt32)] [])) _
    refine XS.iloadN X0.here hx rfl (hb hby d6_3) rfl ?_
    show Steps p.tables e below (s₁.setTop (mkF m 4 #[.val (.int x), .val (.int x.toInt8.toInt32)] [(.int x.toInt8.toInt32)])) _
    exact kk
  by_cases hc4_2 : x.toInt8.toInt32 < (0 : Int32)
  · skip
    obtain ⟨fs, hr, hrun, hended, hW, hsame⟩ := X0.leave (v := some (.int (x.toInt8.toInt32 + (256 : Int32)))) (fun h => by rw [Bd.returns] at h; cases h)
    refine ⟨_, _, pre1 _ ?_, hrun, hended, _, _, rfl, ?_, ⟨_, rfl⟩, hW, hsame.mono (by decide) (by decide)⟩
    · skip
      refine XS.ifNo X0.here hx rfl (hb hby d6_4) rfl (XT.i0_ge_f hc4_2) ?_
      show Steps p.tables e below (s₁.setTop (mkF m 7 #[.val (.int x), .val (.int x.toInt8.toInt32)] [])) _
      refine XS.iloadN X0.here hx rfl (hb hby d6_7) rfl ?_
      show Steps p.tables e below (s₁.setTop (mkF m 8 #[.val (.int x), .val (.int x.toInt8.toInt32)] [(.int x.toInt8.toInt32)])) _
      refine XS.sipush X0.here hx rfl (hb hby d6_8) ?_
      show Steps p.tables e below (s₁.setTop (mkF m 11 #[.val (.int x), .val (.int x.toInt8.toInt32)] [(.int (256 : Int32)), (.int x.toInt8.toInt32)])) _
      refine XS.iadd X0.here hx rfl (hb hby d6_11) rfl ?_
      show Steps p.tables e below (s₁.setTop (mkF m 12 #[.val (.int x), .val (.int x.toInt8.toInt32)] [(.int (x.toInt8.toInt32 + (256 : Int32)))])) _
      refine XS.istoreN X0.here hx rfl (hb hby d6_12) rfl (l' := #[.val (.int x), .val (.int (x.toInt8.toInt32 + (256 : Int32)))]) rfl ?_
      show Steps p.tables e below (s₁.setTop (mkF m 13 #[.val (.int x), .val (.int (x.toInt8.toInt32 + (256 : Int32)))] [])) _
      refine XS.iloadN X0.here hx rfl (hb hby d6_13) rfl ?_
      show Steps p.tables e below (s₁.setTop (mkF m 14 #[.val (.int x), .val (.int (x.toInt8.toInt32 + (256 : Int32)))] [(.int (x.toInt8.toInt32 + (256 : Int32)))])) _
      exact retI X0 hx Bd.returns (hb hby d6_14) hr
    · show QF Z x h0 n0 _ s₁.heap _
      rw [e0]
      exact ⟨by simp only [own_ref, hc4_2, if_true, if_false], N0, rfl⟩
  · skip
    obtain ⟨fs, hr, hrun, hended, hW, hsame⟩ := X0.leave (v := some (.int x.toInt8.toInt32)) (fun h => by rw [Bd.returns] at h; cases h)
    refine ⟨_, _, pre1 _ ?_, hrun, hended, _, _, rfl, ?_, ⟨_, rfl⟩, hW, hsame.mono (by decide) (by decide)⟩
    · skip
      refine XS.ifYes X0.here hx rfl (pc0 := 4) (pc' := 13) rfl (hb hby d6_4) rfl (XT.i0_ge_t hc4_2) (by decide) (by decide) ?_
      show Steps p.tables e below (s₁.setTop (mkF m 13 #[.val (.int x), .val (.int x.toInt8.toInt32)] [])) _
      refine XS.iloadN X0.here hx rfl (hb hby d6_13) rfl ?_
      show Steps p.tables e below (s₁.setTop (mkF m 14 #[.val (.int x), .val (.int x.toInt8.toInt32)] [(.int x.toInt8.toInt32)])) _
      exact retI X0 hx Bd.returns (hb hby d6_14) hr
    · show QF Z x h0 n0 _ s₁.heap _
      rw [e0]
      exact ⟨by simp only [own_ref, hc4_2, if_true, if_false], N0, rfl⟩
theorem pn_0 : plainName "com/example/fir/fir/core/DecoderReadBytePinLaw" = true := by first | (simp [plainName, overriddenIn]; done) | decide +kernel
theorem pd___BI_V : parseMethodDescriptor "([BI)V" = some ⟨[(.array .byte), .int], none⟩ := by decide +kernel
theorem pd___Z : parseMethodDescriptor "()Z" = some ⟨[], some .boolean⟩ := by decide +kernel
theorem pd___I : parseMethodDescriptor "()I" = some ⟨[], some .int⟩ := by decide +kernel
theorem pd__IIII_I : parseMethodDescriptor "(IIII)I" = some ⟨[.int, .int, .int, .int], some .int⟩ := by decide +kernel
theorem pd__I_I : parseMethodDescriptor "(I)I" = some ⟨[.int], some .int⟩ := by decide +kernel
theorem ef_rm0 (m : MethodId) (x0 : Int32) (x1 : Int32) (x2 : Int32) (x3 : Int32) : entryFrame m #[(.int x0), (.int x1), (.int x2), (.int x3)] maxLocals = mkF m 0 #[.val (.int x0), .val (.int x1), .val (.int x2), .val (.int x3), .unset, .unset, .unset, .unset, .unset, .unset] [] := by first | (simp [entryFrame, mkF, argsToLocals, Value.category, maxLocals]; done) | rfl
def Q0 (Z : State) (p1 : Int32) (p2 : Int32) (p3 : Int32) (p4 : Int32) (h0 : Heap) (n0 : Nat) (v : Option Value) (h : Heap) (L : List Loc) : Prop := v = some (.int (1 : Int32)) ∧ Fr n0 L
set_option maxRecDepth 65536 in
set_option maxHeartbeats 40000000 in
theorem rm0 (l : Launch) (Z : State) (a0 : Array Value) (hw : ∀ d ∈ tables_1, d.before a0 Z = true) (ws : List Jvm.Cond) (p1 : Int32) (p2 : Int32) (p3 : Int32) (p4 : Int32) (h0 : Heap) (n0 : Nat) (Z0 : n0 ≤ h0.size) :
    MetFree l x (head1 (Jvm.Cond.code x code maxLocals ret :: ws) room_1) (fun ar UU => ar = #[(.int p1), (.int p2), (.int p3), (.int p4)] ∧ Z.Warmed39 UU.vm ∧ UU.heap = h0) (fun _ _ _ _ _ => True) (fun _ UU oo UU' => ∃ vv LL, oo = .returned vv ∧ Q0 Z p1 p2 p3 p4 h0 n0 vv UU'.heap LL ∧ FrameEnd UU oo UU' LL room_1.cells room_1.slots) := by
  refine MetFree.of_bodySF (plainFor_of_name pn_0) hisR ?_
  intro p e s m args below meth c s₁ Bd hml0 hP hK
  obtain ⟨rfl, hZ, hh⟩ := hP
  have hx := Bd.exec
  have hby := Bd.bytes
  have hml : c.maxLocals = 10 := hml0
  have hown : s.vm.findClass "com/example/fir/fir/core/DecoderReadBytePinLaw" = some m.cls := findClass_of_methodNamed Bd.named
  have hnm := (name_of_methodNamed Bd.named Bd.method).1
  have X0 : Stand p l e room_1 s m #[(.int p1), (.int p2), (.int p3), (.int p4)] below meth c s₁ [] 0 0 := Stand.of_body Bd
  have e0 : s₁.heap = h0 := by rw [← hh, Bd.state]; rfl
  have N0 := Fr.nil n0
  have KC0 : Keep h0 h0 [] := Keep.refl h0 []
  have pre0 : ∀ tgt, Steps p.tables e below (s₁.setTop (mkF m 0 #[.val (.int p1), .val (.int p2), .val (.int p3), .val (.int p4), .unset, .unset, .unset, .unset, .unset, .unset] [])) tgt → Steps p.tables e below (s₁.setTop (entryFrame m #[(.int p1), (.int p2), (.int p3), (.int p4)] maxLocals)) tgt := fun tgt kk => castTop (ef_rm0 m (p1) (p2) (p3) (p4)) kk
  have hoff := own_off p4
  have pre1 : ∀ tgt, Steps p.tables e below (s₁.setTop (mkF m 1 #[.val (.int p1), .val (.int p2), .val (.int p3), .val (.int p4), .unset, .unset, .unset, .unset, .unset, .unset] [(.int (3 : Int32))])) tgt → Steps p.tables e below (s₁.setTop (entryFrame m #[(.int p1), (.int p2), (.int p3), (.int p4)] maxLocals)) tgt := by
    intro tgt kk
    refine pre0 tgt ?_
    refine XS.iconst X0.here hx rfl (hb hby at_0) ?_
    show Steps p.tables e below (s₁.setTop (mkF m 1 #[.val (.int p1), .val (.int p2), .val (.int p3), .val (.int p4), .unset, .unset, .unset, .unset, .unset, .unset] [(.int (3 : Int32))])) _
    exact kk
  obtain ⟨T2, h2, k2, X2, e2, E2, A2, st2⟩ := newP X0 hx hZ (hw _ (List.mem_of_getElem? (i := 0) rfl)) e0 (g := (mkF m 1 #[.val (.int p1), .val (.int p2), .val (.int p3), .val (.int p4), .unset, .unset, .unset, .unset, .unset, .unset] [(.int (3 : Int32))])) rfl (hb hby at_1) rfl (by decide) (cap := 3) (by decide) (by decide) (by decide) (by decide)
  obtain ⟨b2, g2⟩ : ∃ z, z = h0.size := ⟨_, rfl⟩
  rw [← g2] at A2 st2
  have gn3 : n0 ≤ b2 := Nat.le_trans Z0 (Nat.le_of_eq g2.symm)
  have sz3 : h0.size ≤ b2 := Nat.le_trans KC0.1 (Nat.le_of_eq g2.symm)
  have Zs4 : n0 ≤ h2.size := Nat.le_trans Z0 E2.1
  have KC4 : Keep h0 h2 [] := KC0.ext E2
  have V_b2 : Arv Z h2 b2 k2 .byte (3 : Int32) [(.int (0 : Int32)), (.int (0 : Int32)), (.int (0 : Int32))] (.int (0 : Int32)) := (Arv.new A2 (by decide)).pad (pad_rep [] (.int (0 : Int32)) 3)
  have pre5 : ∀ tgt, Steps p.tables e below (T2.setTop (mkF m 7 #[.val (.int p1), .val (.int p2), .val (.int p3), .val (.int p4), .unset, .unset, .unset, .unset, .unset, .unset] [(.int p1.toInt8.toInt32), (.int (0 : Int32)), (.ref b2), (.ref b2)])) tgt → Steps p.tables e below (s₁.setTop (entryFrame m #[(.int p1), (.int p2), (.int p3), (.int p4)] maxLocals)) tgt := by
    intro tgt kk
    refine pre1 tgt ?_
    refine st2 _ ?_
    show Steps p.tables e below (T2.setTop (mkF m 3 #[.val (.int p1), .val (.int p2), .val (.int p3), .val (.int p4), .unset, .unset, .unset, .unset, .unset, .unset] [(.ref b2)])) _
    refine XS.dup X2.here hx rfl (hb hby at_3) rfl rfl ?_
    show Steps p.tables e below (T2.setTop (mkF m 4 #[.val (.int p1), .val (.int p2), .val (.int p3), .val (.int p4), .unset, .unset, .unset, .unset, .unset, .unset] [(.ref b2), (.ref b2)])) _
    refine XS.iconst X2.here hx rfl (hb hby at_4) ?_
    show Steps p.tables e below (T2.setTop (mkF m 5 #[.val (.int p1), .val (.int p2), .val (.int p3), .val (.int p4), .unset, .unset, .unset, .unset, .unset, .unset] [(.int (0 : Int32)), (.ref b2), (.ref b2)])) _
    refine XS.iloadN X2.here hx rfl (hb hby at_5) rfl ?_
    show Steps p.tables e below (T2.setTop (mkF m 6 #[.val (.int p1), .val (.int p2), .val (.int p3), .val (.int p4), .unset, .unset, .unset, .unset, .unset, .unset] [(.int p1), (.int (0 : Int32)), (.ref b2), (.ref b2)])) _
    refine XS.i2b X2.here hx rfl (hb hby at_6) rfl ?_
    show Steps p.tables e below (T2.setTop (mkF m 7 #[.val (.int p1), .val (.int p2), .val (.int p3), .val (.int p4), .unset, .unset, .unset, .unset, .unset, .unset] [(.int p1.toInt8.toInt32), (.int (0 : Int32)), (.ref b2), (.ref b2)])) _
    exact kk
  obtain ⟨cl6, Ar6, aq6, aS6, aN6, aH6, aG6⟩ := id V_b2
  have hin7 : ¬ ((0 : Int32) < 0 ∨ cl6.slots.size ≤ ((0 : Int32)).toNatClampNeg) := inb_of aS6 ⟨by decide, by decide⟩
  obtain ⟨T7, h7, X7, e7, W7, st7⟩ := stB X2 hx hZ e2 Ar6 (j := (0 : Int32)) hin7 (g := (mkF m 7 #[.val (.int p1), .val (.int p2), .val (.int p3), .val (.int p4), .unset, .unset, .unset, .unset, .unset, .unset] [(.int p1.toInt8.toInt32), (.int (0 : Int32)), (.ref b2), (.ref b2)])) rfl rfl (hb hby at_7)
  have N7 := Fr.snoc X7 N0 gn3
  have Vq7 : Arv Z h7 b2 k2 .byte (3 : Int32) [(.int (nar .byte p1.toInt8.toInt32)), (.int (0 : Int32)), (.int (0 : Int32))] (.int (0 : Int32)) := Arv.set Ar6 aq6 aS6 aN6 aH6 aG6 (fits_nar_byte _) W7 0 rfl (Nat.le_of_ble_eq_true rfl)
  have Zs8 : n0 ≤ h7.size := Nat.le_trans Zs4 (Keep.of_wr W7).1
  have KC8 : Keep h0 h7 [] := KC4.wr W7 (Or.inr sz3)
  have V_b2 := Vq7
  have pre9 : ∀ tgt, Steps p.tables e below (T7.setTop (mkF m 12 #[.val (.int p1), .val (.int p2), .val (.int p3), .val (.int p4), .unset, .unset, .unset, .unset, .unset, .unset] [(.int p2.toInt8.toInt32), (.int (1 : Int32)), (.ref b2), (.ref b2)])) tgt → Steps p.tables e below (s₁.setTop (entryFrame m #[(.int p1), (.int p2), (.int p3), (.int p4)] maxLocals)) tgt := by
    intro tgt kk
    refine pre5 tgt ?_
    refine st7 _ ?_
    show Steps p.tables e below (T7.setTop (mkF m 8 #[.val (.int p1), .val (.int p2), .val (.int p3), .val (.int p4), .unset, .unset, .unset, .unset, .unset, .unset] [(.ref b2)])) _
    refine XS.dup X7.here hx rfl (hb hby at_8) rfl rfl ?_
    show Steps p.tables e below (T7.setTop (mkF m 9 #[.val (.int p1), .val (.int p2), .val (.int p3), .val (.int p4), .unset, .unset, .unset, .unset, .unset, .unset] [(.ref b2), (.ref b2)])) _
    refine XS.iconst X7.here hx rfl (hb hby at_9) ?_
    show Steps p.tables e below (T7.setTop (mkF m 10 #[.val (.int p1), .val (.int p2), .val (.int p3), .val (.int p4), .unset, .unset, .unset, .unset, .unset, .unset] [(.int (1 : Int32)), (.ref b2), (.ref b2)])) _
    refine XS.iloadN X7.here hx rfl (hb hby at_10) rfl ?_
    show Steps p.tables e below (T7.setTop (mkF m 11 #[.val (.int p1), .val (.int p2), .val (.int p3), .val (.int p4), .unset, .unset, .unset, .unset, .unset, .unset] [(.int p2), (.int (1 : Int32)), (.ref b2), (.ref b2)])) _
    refine XS.i2b X7.here hx rfl (hb hby at_11) rfl ?_
    show Steps p.tables e below (T7.setTop (mkF m 12 #[.val (.int p1), .val (.int p2), .val (.int p3), .val (.int p4), .unset, .unset, .unset, .unset, .unset, .unset] [(.int p2.toInt8.toInt32), (.int (1 : Int32)), (.ref b2), (.ref b2)])) _
    exact kk
  obtain ⟨cl10, Ar10, aq10, aS10, aN10, aH10, aG10⟩ := id V_b2
  have hin11 : ¬ ((1 : Int32) < 0 ∨ cl10.slots.size ≤ ((1 : Int32)).toNatClampNeg) := inb_of aS10 ⟨by decide, by decide⟩
  obtain ⟨T11, h11, X11, e11, W11, st11⟩ := stB X7 hx hZ e7 Ar10 (j := (1 : Int32)) hin11 (g := (mkF m 12 #[.val (.int p1), .val (.int p2), .val (.int p3), .val (.int p4), .unset, .unset, .unset, .unset, .unset, .unset] [(.int p2.toInt8.toInt32), (.int (1 : Int32)), (.ref b2), (.ref b2)])) rfl rfl (hb hby at_12)
  have N11 := Fr.snoc X11 N7 gn3
  have Vq11 : Arv Z h11 b2 k2 .byte (3 : Int32) [(.int (nar .byte p1.toInt8.toInt32)), (.int (nar .byte p2.toInt8.toInt32)), (.int (0 : Int32))] (.int (0 : Int32)) := Arv.set Ar10 aq10 aS10 aN10 aH10 aG10 (fits_nar_byte _) W11 1 rfl (Nat.le_of_ble_eq_true rfl)
  have Zs12 : n0 ≤ h11.size := Nat.le_trans Zs8 (Keep.of_wr W11).1
  have KC12 : Keep h0 h11 [] := KC8.wr W11 (Or.inr sz3)
  have V_b2 := Vq11
  have pre13 : ∀ tgt, Steps p.tables e below (T11.setTop (mkF m 17 #[.val (.int p1), .val (.int p2), .val (.int p3), .val (.int p4), .unset, .unset, .unset, .unset, .unset, .unset] [(.int p3.toInt8.toInt32), (.int (2 : Int32)), (.ref b2), (.ref b2)])) tgt → Steps p.tables e below (s₁.setTop (entryFrame m #[(.int p1), (.int p2), (.int p3), (.int p4)] maxLocals)) tgt := by
    intro tgt kk
    refine pre9 tgt ?_
    refine st11 _ ?_
    show Steps p.tables e below (T11.setTop (mkF m 13 #[.val (.int p1), .val (.int p2), .val (.int p3), .val (.int p4), .unset, .unset, .unset, .unset, .unset, .unset] [(.ref b2)])) _
    refine XS.dup X11.here hx rfl (hb hby at_13) rfl rfl ?_
    show Steps p.tables e below (T11.setTop (mkF m 14 #[.val (.int p1), .val (.int p2), .val (.int p3), .val (.int p4), .unset, .unset, .unset, .unset, .unset, .unset] [(.ref b2), (.ref b2)])) _
    refine XS.iconst X11.here hx rfl (hb hby at_14) ?_
    show Steps p.tables e below (T11.setTop (mkF m 15 #[.val (.int p1), .val (.int p2), .val (.int p3), .val (.int p4), .unset, .unset, .unset, .unset, .unset, .unset] [(.int (2 : Int32)), (.ref b2), (.ref b2)])) _
    refine XS.iloadN X11.here hx rfl (hb hby at_15) rfl ?_
    show Steps p.tables e below (T11.setTop (mkF m 16 #[.val (.int p1), .val (.int p2), .val (.int p3), .val (.int p4), .unset, .unset, .unset, .unset, .unset, .unset] [(.int p3), (.int (2 : Int32)), (.ref b2), (.ref b2)])) _
    refine XS.i2b X11.here hx rfl (hb hby at_16) rfl ?_
    show Steps p.tables e below (T11.setTop (mkF m 17 #[.val (.int p1), .val (.int p2), .val (.int p3), .val (.int p4), .unset, .unset, .unset, .unset, .unset, .unset] [(.int p3.toInt8.toInt32), (.int (2 : Int32)), (.ref b2), (.ref b2)])) _
    exact kk
  obtain ⟨cl14, Ar14, aq14, aS14, aN14, aH14, aG14⟩ := id V_b2
  have hin15 : ¬ ((2 : Int32) < 0 ∨ cl14.slots.size ≤ ((2 : Int32)).toNatClampNeg) := inb_of aS14 ⟨by decide, by decide⟩
  obtain ⟨T15, h15, X15, e15, W15, st15⟩ := stB X11 hx hZ e11 Ar14 (j := (2 : Int32)) hin15 (g := (mkF m 17 #[.val (.int p1), .val (.int p2), .val (.int p3), .val (.int p4), .unset, .unset, .unset, .unset, .unset, .unset] [(.int p3.toInt8.toInt32), (.int (2 : Int32)), (.ref b2), (.ref b2)])) rfl rfl (hb hby at_17)
  have N15 := Fr.snoc X15 N11 gn3
  have Vq15 : Arv Z h15 b2 k2 .byte (3 : Int32) [(.int (nar .byte p1.toInt8.toInt32)), (.int (nar .byte p2.toInt8.toInt32)), (.int (nar .byte p3.toInt8.toInt32))] (.int (0 : Int32)) := Arv.set Ar14 aq14 aS14 aN14 aH14 aG14 (fits_nar_byte _) W15 2 rfl (Nat.le_of_ble_eq_true rfl)
  have Zs16 : n0 ≤ h15.size := Nat.le_trans Zs12 (Keep.of_wr W15).1
  have KC16 : Keep h0 h15 [] := KC12.wr W15 (Or.inr sz3)
  have V_b2 := Vq15
  have pre17 : ∀ tgt, Steps p.tables e below (T15.setTop (mkF m 26 #[.val (.int p1), .val (.int p2), .val (.int p3), .val (.int p4), .val (.ref b2), .unset, .unset, .unset, .unset, .unset] [(.int ((p4 &&& (2147483647 : Int32)) % (3 : Int32)))])) tgt → Steps p.tables e below (s₁.setTop (entryFrame m #[(.int p1), (.int p2), (.int p3), (.int p4)] maxLocals)) tgt := by
    intro tgt kk
    refine pre13 tgt ?_
    refine st15 _ ?_
    show Steps p.tables e below (T15.setTop (mkF m 18 #[.val (.int p1), .val (.int p2), .val (.int p3), .val (.int p4), .unset, .unset, .unset, .unset, .unset, .unset] [(.ref b2)])) _
    refine XS.astore X15.here hx rfl (hb hby at_18) rfl rfl (l' := #[.val (.int p1), .val (.int p2), .val (.int p3), .val (.int p4), .val (.ref b2), .unset, .unset, .unset, .unset, .unset]) rfl ?_
    show Steps p.tables e below (T15.setTop (mkF m 20 #[.val (.int p1), .val (.int p2), .val (.int p3), .val (.int p4), .val (.ref b2), .unset, .unset, .unset, .unset, .unset] [])) _
    refine XS.iloadN X15.here hx rfl (hb hby at_20) rfl ?_
    show Steps p.tables e below (T15.setTop (mkF m 21 #[.val (.int p1), .val (.int p2), .val (.int p3), .val (.int p4), .val (.ref b2), .unset, .unset, .unset, .unset, .unset] [(.int p4)])) _
    refine X15.ldcInt hx hown (mvT hZ (hw _ (List.mem_of_getElem? (i := 1) rfl))) (g := (mkF m 21 #[.val (.int p1), .val (.int p2), .val (.int p3), .val (.int p4), .val (.ref b2), .unset, .unset, .unset, .unset, .unset] [(.int p4)])) rfl (hb hby at_21) _ ?_
    show Steps p.tables e below (T15.setTop (mkF m 23 #[.val (.int p1), .val (.int p2), .val (.int p3), .val (.int p4), .val (.ref b2), .unset, .unset, .unset, .unset, .unset] [(.int (2147483647 : Int32)), (.int p4)])) _
    refine XS.iand X15.here hx rfl (hb hby at_23) rfl ?_
    show Steps p.tables e below (T15.setTop (mkF m 24 #[.val (.int p1), .val (.int p2), .val (.int p3), .val (.int p4), .val (.ref b2), .unset, .unset, .unset, .unset, .unset] [(.int (p4 &&& (2147483647 : Int32)))])) _
    refine XS.iconst X15.here hx rfl (hb hby at_24) ?_
    show Steps p.tables e below (T15.setTop (mkF m 25 #[.val (.int p1), .val (.int p2), .val (.int p3), .val (.int p4), .val (.ref b2), .unset, .unset, .unset, .unset, .unset] [(.int (3 : Int32)), (.int (p4 &&& (2147483647 : Int32)))])) _
    refine iremM X15 hx rfl (hb hby at_25) rfl (by decide) ?_
    show Steps p.tables e below (T15.setTop (mkF m 26 #[.val (.int p1), .val (.int p2), .val (.int p3), .val (.int p4), .val (.ref b2), .unset, .unset, .unset, .unset, .unset] [(.int ((p4 &&& (2147483647 : Int32)) % (3 : Int32)))])) _
    exact kk
  obtain ⟨off, hoffe⟩ : ∃ z, z = ((p4 &&& (2147483647 : Int32)) % (3 : Int32)) := ⟨_, rfl⟩
  rw [← hoffe] at hoff pre17
  have pre19 : ∀ tgt, Steps p.tables e below (T15.setTop (mkF m 28 #[.val (.int p1), .val (.int p2), .val (.int p3), .val (.int p4), .val (.ref b2), .val (.int off), .unset, .unset, .unset, .unset] [])) tgt → Steps p.tables e below (s₁.setTop (entryFrame m #[(.int p1), (.int p2), (.int p3), (.int p4)] maxLocals)) tgt := by
    intro tgt kk
    refine pre17 tgt ?_
    refine XS.istore X15.here hx rfl (hb hby at_26) rfl (l' := #[.val (.int p1), .val (.int p2), .val (.int p3), .val (.int p4), .val (.ref b2), .val (.int off), .unset, .unset, .unset, .unset]) rfl ?_
    show Steps p.tables e below (T15.setTop (mkF m 28 #[.val (.int p1), .val (.int p2), .val (.int p3), .val (.int p4), .val (.ref b2), .val (.int off), .unset, .unset, .unset, .unset] [])) _
    exact kk
  obtain ⟨T20, h20, X20, e20, E20, A20, D20, -, st20⟩ := newO X15 hx hZ hown (hw _ (List.mem_of_getElem? (i := 2) rfl)) (hw _ (List.mem_of_getElem? (i := 3) rfl)) (hw _ (List.mem_of_getElem? (i := 4) rfl)) e15 (g := (mkF m 28 #[.val (.int p1), .val (.int p2), .val (.int p3), .val (.int p4), .val (.ref b2), .val (.int off), .unset, .unset, .unset, .unset] [])) rfl (hb hby at_28) (by decide) (by decide)
  obtain ⟨b20, g20⟩ : ∃ z, z = h15.size := ⟨_, rfl⟩
  rw [← g20] at A20 D20 st20
  have ne21 : b2 ≠ b20 := Nat.ne_of_lt (Nat.lt_of_lt_of_le V_b2.lt (Nat.le_of_eq g20.symm))
  have gn22 : n0 ≤ b20 := Nat.le_trans Zs16 (Nat.le_of_eq g20.symm)
  have sz22 : h0.size ≤ b20 := Nat.le_trans KC16.1 (Nat.le_of_eq g20.symm)
  have V_b2 : Arv Z h20 b2 k2 .byte (3 : Int32) [(.int (nar .byte p1.toInt8.toInt32)), (.int (nar .byte p2.toInt8.toInt32)), (.int (nar .byte p3.toInt8.toInt32))] (.int (0 : Int32)) := V_b2.ext E20
  have Zs23 : n0 ≤ h20.size := Nat.le_trans Zs16 E20.1
  have KC23 : Keep h0 h20 [] := KC16.ext E20
  have E_b20 : Exa Z h20 b20 "com/example/fir/fir/core/Decoder" := A20
  have F_bytes_b20 : Fld Z h20 b20 "com/example/fir/fir/core/Decoder" "bytes" "[B" .null := D20 (Or.inr (hw _ (List.mem_of_getElem? (i := 12) rfl))) (ty := (.array .byte)) (by decide)
  have F_offset_b20 : Fld Z h20 b20 "com/example/fir/fir/core/Decoder" "offset" "I" (.int (0 : Int32)) := D20 (Or.inl (hw _ (List.mem_of_getElem? (i := 14) rfl))) (ty := .int) (by decide)
  have pre24 : ∀ tgt, Steps p.tables e below (T20.setTop (mkF m 36 #[.val (.int p1), .val (.int p2), .val (.int p3), .val (.int p4), .val (.ref b2), .val (.int off), .unset, .unset, .unset, .unset] [(.int off), (.ref b2), (.ref b20), (.ref b20)])) tgt → Steps p.tables e below (s₁.setTop (entryFrame m #[(.int p1), (.int p2), (.int p3), (.int p4)] maxLocals)) tgt := by
    intro tgt kk
    refine pre19 tgt ?_
    refine st20 _ ?_
    show Steps p.tables e below (T20.setTop (mkF m 31 #[.val (.int p1), .val (.int p2), .val (.int p3), .val (.int p4), .val (.ref b2), .val (.int off), .unset, .unset, .unset, .unset] [(.ref b20)])) _
    refine XS.dup X20.here hx rfl (hb hby at_31) rfl rfl ?_
    show Steps p.tables e below (T20.setTop (mkF m 32 #[.val (.int p1), .val (.int p2), .val (.int p3), .val (.int p4), .val (.ref b2), .val (.int off), .unset, .unset, .unset, .unset] [(.ref b20), (.ref b20)])) _
    refine XS.aload X20.here hx rfl (hb hby at_32) rfl rfl ?_
    show Steps p.tables e below (T20.setTop (mkF m 34 #[.val (.int p1), .val (.int p2), .val (.int p3), .val (.int p4), .val (.ref b2), .val (.int off), .unset, .unset, .unset, .unset] [(.ref b2), (.ref b20), (.ref b20)])) _
    refine XS.iload X20.here hx rfl (hb hby at_34) rfl ?_
    show Steps p.tables e below (T20.setTop (mkF m 36 #[.val (.int p1), .val (.int p2), .val (.int p3), .val (.int p4), .val (.ref b2), .val (.int off), .unset, .unset, .unset, .unset] [(.int off), (.ref b2), (.ref b20), (.ref b20)])) _
    exact kk
  obtain ⟨_, _, ⟨T25, L25, k25, n25⟩, -, X25, ⟨Lc25, hQ25, l25, y25, z25⟩, st25⟩ := X20.specialBack hx (y := (⟨"com/example/fir/fir/core/Decoder", "<init>", "([BI)V"⟩ : MethodName)) rfl hown (mvT hZ (hw _ (List.mem_of_getElem? (i := 5) rfl))) (mvT hZ (hw _ (List.mem_of_getElem? (i := 6) rfl))) (mvT hZ (hw _ (List.mem_of_getElem? (i := 7) rfl))) (by decide) (backOf (W := 1) (rmI l Z a0 hw [] (b20) (b2) (off) h20 n0 Zs23 E_b20 F_bytes_b20 F_offset_b20 gn22) hZ (hw _ (List.mem_of_getElem? (i := 7) rfl)) (hw _ (List.mem_of_getElem? (i := 4) rfl)) (by decide) (by decide)) (g := (mkF m 36 #[.val (.int p1), .val (.int p2), .val (.int p3), .val (.int p4), .val (.ref b2), .val (.int off), .unset, .unset, .unset, .unset] [(.int off), (.ref b2), (.ref b20), (.ref b20)])) rfl (by rw [hml]; rfl) (Steps.refl _) (a := b20) (argsL := [(.ref b2), (.int off)]) (rest := [(.ref b20)]) (lenOf pd___BI_V rfl) rfl (by show 2 * 0 + _ ≤ _; exact Nat.le_of_eq rfl) (hb hby at_36) (fun _ _ => ⟨rfl, e20, (by decide : 2 + 0 ≤ _), (by decide : 5 + 0 ≤ _)⟩)
  dsimp only [Pt.U, Pt.locs, Pt.cells, Pt.slots] at X25 l25 y25 z25 st25 hQ25
  subst l25 y25 z25
  obtain ⟨rfl, N25q, K25, Fq25_0, Fq25_1⟩ := hQ25
  have N25 := Fr.app N15 N25q
  have V_b2 : Arv Z T25.heap b2 k2 .byte (3 : Int32) [(.int (nar .byte p1.toInt8.toInt32)), (.int (nar .byte p2.toInt8.toInt32)), (.int (nar .byte p3.toInt8.toInt32))] (.int (0 : Int32)) := V_b2.keep K25 (ninS ne21 nin0)
  have E_b20 : Exa Z T25.heap b20 "com/example/fir/fir/core/Decoder" := E_b20.keep K25
  have Zs26 : n0 ≤ T25.heap.size := Nat.le_trans Zs23 K25.1
  have KC26 : Keep h0 T25.heap [] := KC23.trans K25 (allS (Or.inr sz22) all0)
  have F_bytes_b20 := Fq25_0
  have F_offset_b20 := Fq25_1
  have pre27 : ∀ tgt, Steps p.tables e below (T25.setTop (mkF m 43 #[.val (.int p1), .val (.int p2), .val (.int p3), .val (.int p4), .val (.ref b2), .val (.int off), .val (.ref b20), .unset, .unset, .unset] [(.ref b20)])) tgt → Steps p.tables e below (s₁.setTop (entryFrame m #[(.int p1), (.int p2), (.int p3), (.int p4)] maxLocals)) tgt := by
    intro tgt kk
    refine pre24 tgt ?_
    refine st25.trans ?_
    show Steps p.tables e below (T25.setTop (mkF m 39 #[.val (.int p1), .val (.int p2), .val (.int p3), .val (.int p4), .val (.ref b2), .val (.int off), .unset, .unset, .unset, .unset] [(.ref b20)])) _
    refine XS.astore X25.here hx rfl (hb hby at_39) rfl rfl (l' := #[.val (.int p1), .val (.int p2), .val (.int p3), .val (.int p4), .val (.ref b2), .val (.int off), .val (.ref b20), .unset, .unset, .unset]) rfl ?_
    show Steps p.tables e below (T25.setTop (mkF m 41 #[.val (.int p1), .val (.int p2), .val (.int p3), .val (.int p4), .val (.ref b2), .val (.int off), .val (.ref b20), .unset, .unset, .unset] [])) _
    refine XS.aload X25.here hx rfl (hb hby at_41) rfl rfl ?_
    show Steps p.tables e below (T25.setTop (mkF m 43 #[.val (.int p1), .val (.int p2), .val (.int p3), .val (.int p4), .val (.ref b2), .val (.int off), .val (.ref b20), .unset, .unset, .unset] [(.ref b20)])) _
    exact kk
  obtain ⟨cq28, kq28, q28a, q28b, q28c⟩ := isOf hZ rfl E_b20
  obtain ⟨_, _, ⟨T28, L28, k28, n28⟩, -, X28, ⟨Lc28, hQ28, l28, y28, z28⟩, st28⟩ := X25.virtualBack hx (y := (⟨"com/example/fir/fir/core/Decoder", "atEnd", "()Z"⟩ : MethodName)) (z := (⟨"com/example/fir/fir/core/Decoder", "atEnd", "()Z"⟩ : MethodName)) hown (mvT hZ (hw _ (List.mem_of_getElem? (i := 15) rfl))) (mvT hZ (hw _ (List.mem_of_getElem? (i := 16) rfl))) (notFace_of_selects (args := #[]) (mvT hZ (hw _ (List.mem_of_getElem? (i := 18) rfl)))) (mvT hZ (hw _ (List.mem_of_getElem? (i := 18) rfl))) (mvT hZ (hw _ (List.mem_of_getElem? (i := 17) rfl))) (by decide) (backOf (W := 0) (rmA l Z a0 hw [] b20 b2 k2 (off) ((nar .byte p1.toInt8.toInt32)) ((nar .byte p2.toInt8.toInt32)) ((nar .byte p3.toInt8.toInt32)) T25.heap n0 Zs26 F_bytes_b20 F_offset_b20 V_b2) hZ (hw _ (List.mem_of_getElem? (i := 19) rfl)) (hw _ (List.mem_of_getElem? (i := 4) rfl)) (by decide) (by decide)) q28a q28c (g := (mkF m 43 #[.val (.int p1), .val (.int p2), .val (.int p3), .val (.int p4), .val (.ref b2), .val (.int off), .val (.ref b20), .unset, .unset, .unset] [(.ref b20)])) rfl (by rw [hml]; rfl) (Steps.refl _) (argsL := []) (rest := []) (lenOf pd___Z rfl) rfl (by show 2 * 0 + _ ≤ _; exact Nat.le_of_eq rfl) (hb hby at_43) (fun _ _ => ⟨rfl, rfl, (by decide : 2 + 0 ≤ _), (by decide : 5 + 0 ≤ _)⟩)
  dsimp only [Pt.U, Pt.locs, Pt.cells, Pt.slots] at X28 l28 y28 z28 st28 hQ28
  subst l28 y28 z28
  obtain ⟨rfl, N28q, hh28⟩ := hQ28
  have N28 := Fr.app N25 N28q
  have pre29 : ∀ tgt, Steps p.tables e below (T28.setTop (mkF m 46 #[.val (.int p1), .val (.int p2), .val (.int p3), .val (.int p4), .val (.ref b2), .val (.int off), .val (.ref b20), .unset, .unset, .unset] [(.int (bI (off = (3 : Int32))))])) tgt → Steps p.tables e below (s₁.setTop (entryFrame m #[(.int p1), (.int p2), (.int p3), (.int p4)] maxLocals)) tgt := by
    intro tgt kk
    refine pre27 tgt ?_
    refine st28.trans ?_
    show Steps p.tables e below (T28.setTop (mkF m 46 #[.val (.int p1), .val (.int p2), .val (.int p3), .val (.int p4), .val (.ref b2), .val (.int off), .val (.ref b20), .unset, .unset, .unset] [(.int (bI (off = (3 : Int32))))])) _
    exact kk
  obtain ⟨T31, lo31, X31, N31, e31, pre31⟩ : ∃ (T' : State) (lo : List Loc), Stand p l e room_1 s m #[(.int p1), (.int p2), (.int p3), (.int p4)] below meth c T' lo 2 5 ∧ Fr n0 lo ∧ T'.heap = T25.heap ∧ ∀ tgt, Steps p.tables e below (T'.setTop (mkF m 54 #[.val (.int p1), .val (.int p2), .val (.int p3), .val (.int p4), .val (.ref b2), .val (.int off), .val (.ref b20), .unset, .unset, .unset] [(.int (bI (¬ (off = (3 : Int32)))))])) tgt → Steps p.tables e below (s₁.setTop (entryFrame m #[(.int p1), (.int p2), (.int p3), (.int p4)] maxLocals)) tgt := by
    by_cases hc46_30 : off = (3 : Int32)
    · skip
      refine ⟨T28, _, X28, N28, hh28, fun tgt kk => ?_⟩
      have kq32 : ((.int (bI (¬ (off = (3 : Int32))))) : Value) = (.int (0 : Int32)) := (congrArg Value.int (bI_f (not_not_intro hc46_30)))
      rw [kq32] at kk
      refine pre29 tgt ?_
      refine XS.ifYes X28.here hx rfl (pc0 := 46) (pc' := 53) rfl (hb hby at_46) rfl (bB_ne_t hc46_30) (by decide) (by decide) ?_
      show Steps p.tables e below (T28.setTop (mkF m 53 #[.val (.int p1), .val (.int p2), .val (.int p3), .val (.int p4), .val (.ref b2), .val (.int off), .val (.ref b20), .unset, .unset, .unset] [])) _
      refine XS.iconst X28.here hx rfl (hb hby at_53) ?_
      show Steps p.tables e below (T28.setTop (mkF m 54 #[.val (.int p1), .val (.int p2), .val (.int p3), .val (.int p4), .val (.ref b2), .val (.int off), .val (.ref b20), .unset, .unset, .unset] [(.int (0 : Int32))])) _
      exact kk
    · skip
      refine ⟨T28, _, X28, N28, hh28, fun tgt kk => ?_⟩
      have kq33 : ((.int (bI (¬ (off = (3 : Int32))))) : Value) = (.int (1 : Int32)) := (congrArg Value.int (bI_t hc46_30))
      rw [kq33] at kk
      refine pre29 tgt ?_
      refine XS.ifNo X28.here hx rfl (hb hby at_46) rfl (bB_ne_f hc46_30) ?_
      show Steps p.tables e below (T28.setTop (mkF m 49 #[.val (.int p1), .val (.int p2), .val (.int p3), .val (.int p4), .val (.ref b2), .val (.int off), .val (.ref b20), .unset, .unset, .unset] [])) _
      refine XS.iconst X28.here hx rfl (hb hby at_49) ?_
      show Steps p.tables e below (T28.setTop (mkF m 50 #[.val (.int p1), .val (.int p2), .val (.int p3), .val (.int p4), .val (.ref b2), .val (.int off), .val (.ref b20), .unset, .unset, .unset] [(.int (1 : Int32))])) _
      refine XS.goto X28.here hx rfl (pc0 := 50) (pc' := 54) rfl (hb hby at_50) (by decide) (by decide) ?_
      show Steps p.tables e below (T28.setTop (mkF m 54 #[.val (.int p1), .val (.int p2), .val (.int p3), .val (.int p4), .val (.ref b2), .val (.int off), .val (.ref b20), .unset, .unset, .unset] [(.int (1 : Int32))])) _
      exact kk
  have pre34 : ∀ tgt, Steps p.tables e below (T31.setTop (mkF m 58 #[.val (.int p1), .val (.int p2), .val (.int p3), .val (.int p4), .val (.ref b2), .val (.int off), .val (.ref b20), .val (.int (bI (¬ (off = (3 : Int32))))), .unset, .unset] [(.ref b20)])) tgt → Steps p.tables e below (s₁.setTop (entryFrame m #[(.int p1), (.int p2), (.int p3), (.int p4)] maxLocals)) tgt := by
    intro tgt kk
    refine pre31 tgt ?_
    refine XS.istore X31.here hx rfl (hb hby at_54) rfl (l' := #[.val (.int p1), .val (.int p2), .val (.int p3), .val (.int p4), .val (.ref b2), .val (.int off), .val (.ref b20), .val (.int (bI (¬ (off = (3 : Int32))))), .unset, .unset]) rfl ?_
    show Steps p.tables e below (T31.setTop (mkF m 56 #[.val (.int p1), .val (.int p2), .val (.int p3), .val (.int p4), .val (.ref b2), .val (.int off), .val (.ref b20), .val (.int (bI (¬ (off = (3 : Int32))))), .unset, .unset] [])) _
    refine XS.aload X31.here hx rfl (hb hby at_56) rfl rfl ?_
    show Steps p.tables e below (T31.setTop (mkF m 58 #[.val (.int p1), .val (.int p2), .val (.int p3), .val (.int p4), .val (.ref b2), .val (.int off), .val (.ref b20), .val (.int (bI (¬ (off = (3 : Int32))))), .unset, .unset] [(.ref b20)])) _
    exact kk
  obtain ⟨cq35, kq35, q35a, q35b, q35c⟩ := isOf hZ e31 E_b20
  obtain ⟨_, _, ⟨T35, L35, k35, n35⟩, -, X35, ⟨Lc35, hQ35, l35, y35, z35⟩, st35⟩ := X31.virtualBack hx (y := (⟨"com/example/fir/fir/core/Decoder", "readByte", "()I"⟩ : MethodName)) (z := (⟨"com/example/fir/fir/core/Decoder", "readByte", "()I"⟩ : MethodName)) hown (mvT hZ (hw _ (List.mem_of_getElem? (i := 20) rfl))) (mvT hZ (hw _ (List.mem_of_getElem? (i := 21) rfl))) (notFace_of_selects (args := #[]) (mvT hZ (hw _ (List.mem_of_getElem? (i := 23) rfl)))) (mvT hZ (hw _ (List.mem_of_getElem? (i := 23) rfl))) (mvT hZ (hw _ (List.mem_of_getElem? (i := 22) rfl))) (by decide) (backOf (W := 0) (rmR l Z a0 hw [] b20 b2 k2 (off) ((nar .byte p1.toInt8.toInt32)) ((nar .byte p2.toInt8.toInt32)) ((nar .byte p3.toInt8.toInt32)) T25.heap n0 Zs26 E_b20 F_bytes_b20 F_offset_b20 V_b2 gn22 ne21 hoff) hZ (hw _ (List.mem_of_getElem? (i := 24) rfl)) (hw _ (List.mem_of_getElem? (i := 4) rfl)) (by decide) (by decide)) q35a q35c (g := (mkF m 58 #[.val (.int p1), .val (.int p2), .val (.int p3), .val (.int p4), .val (.ref b2), .val (.int off), .val (.ref b20), .val (.int (bI (¬ (off = (3 : Int32))))), .unset, .unset] [(.ref b20)])) rfl (by rw [hml]; rfl) (Steps.refl _) (argsL := []) (rest := []) (lenOf pd___I rfl) rfl (by show 2 * 0 + _ ≤ _; exact Nat.le_of_eq rfl) (hb hby at_58) (fun _ _ => ⟨rfl, e31, (by decide : 2 + 0 ≤ _), (by decide : 5 + 0 ≤ _)⟩)
  dsimp only [Pt.U, Pt.locs, Pt.cells, Pt.slots] at X35 l35 y35 z35 st35 hQ35
  subst l35 y35 z35
  obtain ⟨rfl, N35q, K35, Fq35_0, Fq35_1⟩ := hQ35
  have N35 := Fr.app N31 N35q
  have V_b2 : Arv Z T35.heap b2 k2 .byte (3 : Int32) [(.int (nar .byte p1.toInt8.toInt32)), (.int (nar .byte p2.toInt8.toInt32)), (.int (nar .byte p3.toInt8.toInt32))] (.int (0 : Int32)) := V_b2.keep K35 (ninS ne21 nin0)
  have E_b20 : Exa Z T35.heap b20 "com/example/fir/fir/core/Decoder" := E_b20.keep K35
  have Zs36 : n0 ≤ T35.heap.size := Nat.le_trans Zs26 K35.1
  have KC36 : Keep h0 T35.heap [] := KC26.trans K35 (allS (Or.inr sz22) all0)
  have F_bytes_b20 := Fq35_0
  have F_offset_b20 := Fq35_1
  have pre37 : ∀ tgt, Steps p.tables e below (T35.setTop (mkF m 65 #[.val (.int p1), .val (.int p2), .val (.int p3), .val (.int p4), .val (.ref b2), .val (.int off), .val (.ref b20), .val (.int (bI (¬ (off = (3 : Int32))))), .val (.int ((own_el off ((nar .byte p1.toInt8.toInt32)) ((nar .byte p2.toInt8.toInt32)) ((nar .byte p3.toInt8.toInt32))) &&& (255 : Int32))), .unset] [(.int (bI (¬ (off = (3 : Int32)))))])) tgt → Steps p.tables e below (s₁.setTop (entryFrame m #[(.int p1), (.int p2), (.int p3), (.int p4)] maxLocals)) tgt := by
    intro tgt kk
    refine pre34 tgt ?_
    refine st35.trans ?_
    show Steps p.tables e below (T35.setTop (mkF m 61 #[.val (.int p1), .val (.int p2), .val (.int p3), .val (.int p4), .val (.ref b2), .val (.int off), .val (.ref b20), .val (.int (bI (¬ (off = (3 : Int32))))), .unset, .unset] [(.int ((own_el off ((nar .byte p1.toInt8.toInt32)) ((nar .byte p2.toInt8.toInt32)) ((nar .byte p3.toInt8.toInt32))) &&& (255 : Int32)))])) _
    refine XS.istore X35.here hx rfl (hb hby at_61) rfl (l' := #[.val (.int p1), .val (.int p2), .val (.int p3), .val (.int p4), .val (.ref b2), .val (.int off), .val (.ref b20), .val (.int (bI (¬ (off = (3 : Int32))))), .val (.int ((own_el off ((nar .byte p1.toInt8.toInt32)) ((nar .byte p2.toInt8.toInt32)) ((nar .byte p3.toInt8.toInt32))) &&& (255 : Int32))), .unset]) rfl ?_
    show Steps p.tables e below (T35.setTop (mkF m 63 #[.val (.int p1), .val (.int p2), .val (.int p3), .val (.int p4), .val (.ref b2), .val (.int off), .val (.ref b20), .val (.int (bI (¬ (off = (3 : Int32))))), .val (.int ((own_el off ((nar .byte p1.toInt8.toInt32)) ((nar .byte p2.toInt8.toInt32)) ((nar .byte p3.toInt8.toInt32))) &&& (255 : Int32))), .unset] [])) _
    refine XS.iload X35.here hx rfl (hb hby at_63) rfl ?_
    show Steps p.tables e below (T35.setTop (mkF m 65 #[.val (.int p1), .val (.int p2), .val (.int p3), .val (.int p4), .val (.ref b2), .val (.int off), .val (.ref b20), .val (.int (bI (¬ (off = (3 : Int32))))), .val (.int ((own_el off ((nar .byte p1.toInt8.toInt32)) ((nar .byte p2.toInt8.toInt32)) ((nar .byte p3.toInt8.toInt32))) &&& (255 : Int32))), .unset] [(.int (bI (¬ (off = (3 : Int32)))))])) _
    exact kk
  obtain ⟨T45, lo45, X45, N45, e45, pre45⟩ : ∃ (T' : State) (lo : List Loc), Stand p l e room_1 s m #[(.int p1), (.int p2), (.int p3), (.int p4)] below meth c T' lo 2 5 ∧ Fr n0 lo ∧ T'.heap = T35.heap ∧ ∀ tgt, Steps p.tables e below (T'.setTop (mkF m 89 #[.val (.int p1), .val (.int p2), .val (.int p3), .val (.int p4), .val (.ref b2), .val (.int off), .val (.ref b20), .val (.int (bI (¬ (off = (3 : Int32))))), .val (.int ((own_el off ((nar .byte p1.toInt8.toInt32)) ((nar .byte p2.toInt8.toInt32)) ((nar .byte p3.toInt8.toInt32))) &&& (255 : Int32))), .unset] [(.int (bI ((¬ (off = (3 : Int32))) ∧ (((own_el off ((nar .byte p1.toInt8.toInt32)) ((nar .byte p2.toInt8.toInt32)) ((nar .byte p3.toInt8.toInt32))) &&& (255 : Int32)) = (own_ref (own_pick (off) (p1) (p2) (p3)))))))])) tgt → Steps p.tables e below (s₁.setTop (entryFrame m #[(.int p1), (.int p2), (.int p3), (.int p4)] maxLocals)) tgt := by
    by_cases hc65_38 : ¬ (off = (3 : Int32))
    · skip
      have pre39 : ∀ tgt, Steps p.tables e below (T35.setTop (mkF m 75 #[.val (.int p1), .val (.int p2), .val (.int p3), .val (.int p4), .val (.ref b2), .val (.int off), .val (.ref b20), .val (.int (bI (¬ (off = (3 : Int32))))), .val (.int ((own_el off ((nar .byte p1.toInt8.toInt32)) ((nar .byte p2.toInt8.toInt32)) ((nar .byte p3.toInt8.toInt32))) &&& (255 : Int32))), .unset] [(.int p3), (.int p2), (.int p1), (.int off), (.int ((own_el off ((nar .byte p1.toInt8.toInt32)) ((nar .byte p2.toInt8.toInt32)) ((nar .byte p3.toInt8.toInt32))) &&& (255 : Int32)))])) tgt → Steps p.tables e below (s₁.setTop (entryFrame m #[(.int p1), (.int p2), (.int p3), (.int p4)] maxLocals)) tgt := by
        intro tgt kk
        refine pre37 tgt ?_
        refine XS.ifNo X35.here hx rfl (hb hby at_65) rfl (bB_eq_f hc65_38) ?_
        show Steps p.tables e below (T35.setTop (mkF m 68 #[.val (.int p1), .val (.int p2), .val (.int p3), .val (.int p4), .val (.ref b2), .val (.int off), .val (.ref b20), .val (.int (bI (¬ (off = (3 : Int32))))), .val (.int ((own_el off ((nar .byte p1.toInt8.toInt32)) ((nar .byte p2.toInt8.toInt32)) ((nar .byte p3.toInt8.toInt32))) &&& (255 : Int32))), .unset] [])) _
        refine XS.iload X35.here hx rfl (hb hby at_68) rfl ?_
        show Steps p.tables e below (T35.setTop (mkF m 70 #[.val (.int p1), .val (.int p2), .val (.int p3), .val (.int p4), .val (.ref b2), .val (.int off), .val (.ref b20), .val (.int (bI (¬ (off = (3 : Int32))))), .val (.int ((own_el off ((nar .byte p1.toInt8.toInt32)) ((nar .byte p2.toInt8.toInt32)) ((nar .byte p3.toInt8.toInt32))) &&& (255 : Int32))), .unset] [(.int ((own_el off ((nar .byte p1.toInt8.toInt32)) ((nar .byte p2.toInt8.toInt32)) ((nar .byte p3.toInt8.toInt32))) &&& (255 : Int32)))])) _
        refine XS.iload X35.here hx rfl (hb hby at_70) rfl ?_
        show Steps p.tables e below (T35.setTop (mkF m 72 #[.val (.int p1), .val (.int p2), .val (.int p3), .val (.int p4), .val (.ref b2), .val (.int off), .val (.ref b20), .val (.int (bI (¬ (off = (3 : Int32))))), .val (.int ((own_el off ((nar .byte p1.toInt8.toInt32)) ((nar .byte p2.toInt8.toInt32)) ((nar .byte p3.toInt8.toInt32))) &&& (255 : Int32))), .unset] [(.int off), (.int ((own_el off ((nar .byte p1.toInt8.toInt32)) ((nar .byte p2.toInt8.toInt32)) ((nar .byte p3.toInt8.toInt32))) &&& (255 : Int32)))])) _
        refine XS.iloadN X35.here hx rfl (hb hby at_72) rfl ?_
        show Steps p.tables e below (T35.setTop (mkF m 73 #[.val (.int p1), .val (.int p2), .val (.int p3), .val (.int p4), .val (.ref b2), .val (.int off), .val (.ref b20), .val (.int (bI (¬ (off = (3 : Int32))))), .val (.int ((own_el off ((nar .byte p1.toInt8.toInt32)) ((nar .byte p2.toInt8.toInt32)) ((nar .byte p3.toInt8.toInt32))) &&& (255 : Int32))), .unset] [(.int p1), (.int off), (.int ((own_el off ((nar .byte p1.toInt8.toInt32)) ((nar .byte p2.toInt8.toInt32)) ((nar .byte p3.toInt8.toInt32))) &&& (255 : Int32)))])) _
        refine XS.iloadN X35.here hx rfl (hb hby at_73) rfl ?_
        show Steps p.tables e below (T35.setTop (mkF m 74 #[.val (.int p1), .val (.int p2), .val (.int p3), .val (.int p4), .val (.ref b2), .val (.int off), .val (.ref b20), .val (.int (bI (¬ (off = (3 : Int32))))), .val (.int ((own_el off ((nar .byte p1.toInt8.toInt32)) ((nar .byte p2.toInt8.toInt32)) ((nar .byte p3.toInt8.toInt32))) &&& (255 : Int32))), .unset] [(.int p2), (.int p1), (.int off), (.int ((own_el off ((nar .byte p1.toInt8.toInt32)) ((nar .byte p2.toInt8.toInt32)) ((nar .byte p3.toInt8.toInt32))) &&& (255 : Int32)))])) _
        refine XS.iloadN X35.here hx rfl (hb hby at_74) rfl ?_
        show Steps p.tables e below (T35.setTop (mkF m 75 #[.val (.int p1), .val (.int p2), .val (.int p3), .val (.int p4), .val (.ref b2), .val (.int off), .val (.ref b20), .val (.int (bI (¬ (off = (3 : Int32))))), .val (.int ((own_el off ((nar .byte p1.toInt8.toInt32)) ((nar .byte p2.toInt8.toInt32)) ((nar .byte p3.toInt8.toInt32))) &&& (255 : Int32))), .unset] [(.int p3), (.int p2), (.int p1), (.int off), (.int ((own_el off ((nar .byte p1.toInt8.toInt32)) ((nar .byte p2.toInt8.toInt32)) ((nar .byte p3.toInt8.toInt32))) &&& (255 : Int32)))])) _
        exact kk
      obtain ⟨_, _, ⟨T40, L40, k40, n40⟩, -, X40, ⟨Lc40, hQ40, l40, y40, z40⟩, st40⟩ := Jvm.LawKit.callS X35 hx (y := (⟨"com/example/fir/fir/core/DecoderReadBytePinLaw", "pick", "(IIII)I"⟩ : MethodName)) hown (mvT hZ (hw _ (List.mem_of_getElem? (i := 25) rfl))) (mvT hZ (hw _ (List.mem_of_getElem? (i := 26) rfl))) (mvT hZ (hw _ (List.mem_of_getElem? (i := 27) rfl))) (mvT hZ (hw _ (List.mem_of_getElem? (i := 28) rfl))) (by decide) (backOf (W := 1) (rmP l Z a0 hw [] (off) (p1) (p2) (p3) T35.heap n0 Zs36) hZ (hw _ (List.mem_of_getElem? (i := 28) rfl)) (hw _ (List.mem_of_getElem? (i := 27) rfl)) (by decide) (by decide)) (g := (mkF m 75 #[.val (.int p1), .val (.int p2), .val (.int p3), .val (.int p4), .val (.ref b2), .val (.int off), .val (.ref b20), .val (.int (bI (¬ (off = (3 : Int32))))), .val (.int ((own_el off ((nar .byte p1.toInt8.toInt32)) ((nar .byte p2.toInt8.toInt32)) ((nar .byte p3.toInt8.toInt32))) &&& (255 : Int32))), .unset] [(.int p3), (.int p2), (.int p1), (.int off), (.int ((own_el off ((nar .byte p1.toInt8.toInt32)) ((nar .byte p2.toInt8.toInt32)) ((nar .byte p3.toInt8.toInt32))) &&& (255 : Int32)))])) rfl (by rw [hml]; rfl) (argsL := [(.int off), (.int p1), (.int p2), (.int p3)]) (rest := [(.int ((own_el off ((nar .byte p1.toInt8.toInt32)) ((nar .byte p2.toInt8.toInt32)) ((nar .byte p3.toInt8.toInt32))) &&& (255 : Int32)))]) (lenOf pd__IIII_I rfl) rfl (by show 2 * 0 + _ ≤ _; exact Nat.le_of_eq rfl) (hb hby at_75) (fun _ _ => ⟨rfl, rfl, (by decide : 2 + 0 ≤ _), (by decide : 5 + 0 ≤ _)⟩)
      dsimp only [Pt.U, Pt.locs, Pt.cells, Pt.slots] at X40 l40 y40 z40 st40 hQ40
      subst l40 y40 z40
      obtain ⟨rfl, N40q, hh40⟩ := hQ40
      have N40 := Fr.app N35 N40q
      have pre41 : ∀ tgt, Steps p.tables e below (T40.setTop (mkF m 78 #[.val (.int p1), .val (.int p2), .val (.int p3), .val (.int p4), .val (.ref b2), .val (.int off), .val (.ref b20), .val (.int (bI (¬ (off = (3 : Int32))))), .val (.int ((own_el off ((nar .byte p1.toInt8.toInt32)) ((nar .byte p2.toInt8.toInt32)) ((nar .byte p3.toInt8.toInt32))) &&& (255 : Int32))), .unset] [(.int (own_pick (off) (p1) (p2) (p3))), (.int ((own_el off ((nar .byte p1.toInt8.toInt32)) ((nar .byte p2.toInt8.toInt32)) ((nar .byte p3.toInt8.toInt32))) &&& (255 : Int32)))])) tgt → Steps p.tables e below (s₁.setTop (entryFrame m #[(.int p1), (.int p2), (.int p3), (.int p4)] maxLocals)) tgt := by
        intro tgt kk
        refine pre39 tgt ?_
        refine st40 _ ?_
        show Steps p.tables e below (T40.setTop (mkF m 78 #[.val (.int p1), .val (.int p2), .val (.int p3), .val (.int p4), .val (.ref b2), .val (.int off), .val (.ref b20), .val (.int (bI (¬ (off = (3 : Int32))))), .val (.int ((own_el off ((nar .byte p1.toInt8.toInt32)) ((nar .byte p2.toInt8.toInt32)) ((nar .byte p3.toInt8.toInt32))) &&& (255 : Int32))), .unset] [(.int (own_pick (off) (p1) (p2) (p3))), (.int ((own_el off ((nar .byte p1.toInt8.toInt32)) ((nar .byte p2.toInt8.toInt32)) ((nar .byte p3.toInt8.toInt32))) &&& (255 : Int32)))])) _
        exact kk
      obtain ⟨_, _, ⟨T42, L42, k42, n42⟩, -, X42, ⟨Lc42, hQ42, l42, y42, z42⟩, st42⟩ := Jvm.LawKit.callS X40 hx (y := (⟨"com/example/fir/fir/core/DecoderReadBytePinLaw", "ref", "(I)I"⟩ : MethodName)) hown (mvT hZ (hw _ (List.mem_of_getElem? (i := 29) rfl))) (mvT hZ (hw _ (List.mem_of_getElem? (i := 30) rfl))) (mvT hZ (hw _ (List.mem_of_getElem? (i := 27) rfl))) (mvT hZ (hw _ (List.mem_of_getElem? (i := 31) rfl))) (by decide) (backOf (W := 1) (rmF l Z a0 hw [] ((own_pick (off) (p1) (p2) (p3))) T35.heap n0 Zs36) hZ (hw _ (List.mem_of_getElem? (i := 31) rfl)) (hw _ (List.mem_of_getElem? (i := 27) rfl)) (by decide) (by decide)) (g := (mkF m 78 #[.val (.int p1), .val (.int p2), .val (.int p3), .val (.int p4), .val (.ref b2), .val (.int off), .val (.ref b20), .val (.int (bI (¬ (off = (3 : Int32))))), .val (.int ((own_el off ((nar .byte p1.toInt8.toInt32)) ((nar .byte p2.toInt8.toInt32)) ((nar .byte p3.toInt8.toInt32))) &&& (255 : Int32))), .unset] [(.int (own_pick (off) (p1) (p2) (p3))), (.int ((own_el off ((nar .byte p1.toInt8.toInt32)) ((nar .byte p2.toInt8.toInt32)) ((nar .byte p3.toInt8.toInt32))) &&& (255 : Int32)))])) rfl (by rw [hml]; rfl) (argsL := [(.int (own_pick (off) (p1) (p2) (p3)))]) (rest := [(.int ((own_el off ((nar .byte p1.toInt8.toInt32)) ((nar .byte p2.toInt8.toInt32)) ((nar .byte p3.toInt8.toInt32))) &&& (255 : Int32)))]) (lenOf pd__I_I rfl) rfl (by show 2 * 0 + _ ≤ _; exact Nat.le_of_eq rfl) (hb hby at_78) (fun _ _ => ⟨rfl, hh40, (by decide : 2 + 0 ≤ _), (by decide : 5 + 0 ≤ _)⟩)
      dsimp only [Pt.U, Pt.locs, Pt.cells, Pt.slots] at X42 l42 y42 z42 st42 hQ42
      subst l42 y42 z42
      obtain ⟨rfl, N42q, hh42⟩ := hQ42
      have N42 := Fr.app N40 N42q
      have pre43 : ∀ tgt, Steps p.tables e below (T42.setTop (mkF m 81 #[.val (.int p1), .val (.int p2), .val (.int p3), .val (.int p4), .val (.ref b2), .val (.int off), .val (.ref b20), .val (.int (bI (¬ (off = (3 : Int32))))), .val (.int ((own_el off ((nar .byte p1.toInt8.toInt32)) ((nar .byte p2.toInt8.toInt32)) ((nar .byte p3.toInt8.toInt32))) &&& (255 : Int32))), .unset] [(.int (own_ref (own_pick (off) (p1) (p2) (p3)))), (.int ((own_el off ((nar .byte p1.toInt8.toInt32)) ((nar .byte p2.toInt8.toInt32)) ((nar .byte p3.toInt8.toInt32))) &&& (255 : Int32)))])) tgt → Steps p.tables e below (s₁.setTop (entryFrame m #[(.int p1), (.int p2), (.int p3), (.int p4)] maxLocals)) tgt := by
        intro tgt kk
        refine pre41 tgt ?_
        refine st42 _ ?_
        show Steps p.tables e below (T42.setTop (mkF m 81 #[.val (.int p1), .val (.int p2), .val (.int p3), .val (.int p4), .val (.ref b2), .val (.int off), .val (.ref b20), .val (.int (bI (¬ (off = (3 : Int32))))), .val (.int ((own_el off ((nar .byte p1.toInt8.toInt32)) ((nar .byte p2.toInt8.toInt32)) ((nar .byte p3.toInt8.toInt32))) &&& (255 : Int32))), .unset] [(.int (own_ref (own_pick (off) (p1) (p2) (p3)))), (.int ((own_el off ((nar .byte p1.toInt8.toInt32)) ((nar .byte p2.toInt8.toInt32)) ((nar .byte p3.toInt8.toInt32))) &&& (255 : Int32)))])) _
        exact kk
      by_cases hc81_44 : ((own_el off ((nar .byte p1.toInt8.toInt32)) ((nar .byte p2.toInt8.toInt32)) ((nar .byte p3.toInt8.toInt32))) &&& (255 : Int32)) = (own_ref (own_pick (off) (p1) (p2) (p3)))
      · skip
        refine ⟨T42, _, X42, N42, hh42, fun tgt kk => ?_⟩
        have kq46 : ((.int (bI ((¬ (off = (3 : Int32))) ∧ (((own_el off ((nar .byte p1.toInt8.toInt32)) ((nar .byte p2.toInt8.toInt32)) ((nar .byte p3.toInt8.toInt32))) &&& (255 : Int32)) = (own_ref (own_pick (off) (p1) (p2) (p3))))))) : Value) = (.int (1 : Int32)) := ((congrArg Value.int (bI_iff (and_iff_right hc65_38))).trans (congrArg Value.int (bI_t hc81_44)))
        rw [kq46] at kk
        refine pre43 tgt ?_
        refine XS.icmpNo X42.here hx rfl (hb hby at_81) rfl (XT.ii_ne_f hc81_44) ?_
        show Steps p.tables e below (T42.setTop (mkF m 84 #[.val (.int p1), .val (.int p2), .val (.int p3), .val (.int p4), .val (.ref b2), .val (.int off), .val (.ref b20), .val (.int (bI (¬ (off = (3 : Int32))))), .val (.int ((own_el off ((nar .byte p1.toInt8.toInt32)) ((nar .byte p2.toInt8.toInt32)) ((nar .byte p3.toInt8.toInt32))) &&& (255 : Int32))), .unset] [])) _
        refine XS.iconst X42.here hx rfl (hb hby at_84) ?_
        show Steps p.tables e below (T42.setTop (mkF m 85 #[.val (.int p1), .val (.int p2), .val (.int p3), .val (.int p4), .val (.ref b2), .val (.int off), .val (.ref b20), .val (.int (bI (¬ (off = (3 : Int32))))), .val (.int ((own_el off ((nar .byte p1.toInt8.toInt32)) ((nar .byte p2.toInt8.toInt32)) ((nar .byte p3.toInt8.toInt32))) &&& (255 : Int32))), .unset] [(.int (1 : Int32))])) _
        refine XS.goto X42.here hx rfl (pc0 := 85) (pc' := 89) rfl (hb hby at_85) (by decide) (by decide) ?_
        show Steps p.tables e below (T42.setTop (mkF m 89 #[.val (.int p1), .val (.int p2), .val (.int p3), .val (.int p4), .val (.ref b2), .val (.int off), .val (.ref b20), .val (.int (bI (¬ (off = (3 : Int32))))), .val (.int ((own_el off ((nar .byte p1.toInt8.toInt32)) ((nar .byte p2.toInt8.toInt32)) ((nar .byte p3.toInt8.toInt32))) &&& (255 : Int32))), .unset] [(.int (1 : Int32))])) _
        exact kk
      · skip
        refine ⟨T42, _, X42, N42, hh42, fun tgt kk => ?_⟩
        have kq47 : ((.int (bI ((¬ (off = (3 : Int32))) ∧ (((own_el off ((nar .byte p1.toInt8.toInt32)) ((nar .byte p2.toInt8.toInt32)) ((nar .byte p3.toInt8.toInt32))) &&& (255 : Int32)) = (own_ref (own_pick (off) (p1) (p2) (p3))))))) : Value) = (.int (0 : Int32)) := ((congrArg Value.int (bI_iff (and_iff_right hc65_38))).trans (congrArg Value.int (bI_f hc81_44)))
        rw [kq47] at kk
        refine pre43 tgt ?_
        refine XS.icmpYes X42.here hx rfl (pc0 := 81) (pc' := 88) rfl (hb hby at_81) rfl (XT.ii_ne_t hc81_44) (by decide) (by decide) ?_
        show Steps p.tables e below (T42.setTop (mkF m 88 #[.val (.int p1), .val (.int p2), .val (.int p3), .val (.int p4), .val (.ref b2), .val (.int off), .val (.ref b20), .val (.int (bI (¬ (off = (3 : Int32))))), .val (.int ((own_el off ((nar .byte p1.toInt8.toInt32)) ((nar .byte p2.toInt8.toInt32)) ((nar .byte p3.toInt8.toInt32))) &&& (255 : Int32))), .unset] [])) _
        refine XS.iconst X42.here hx rfl (hb hby at_88) ?_
        show Steps p.tables e below (T42.setTop (mkF m 89 #[.val (.int p1), .val (.int p2), .val (.int p3), .val (.int p4), .val (.ref b2), .val (.int off), .val (.ref b20), .val (.int (bI (¬ (off = (3 : Int32))))), .val (.int ((own_el off ((nar .byte p1.toInt8.toInt32)) ((nar .byte p2.toInt8.toInt32)) ((nar .byte p3.toInt8.toInt32))) &&& (255 : Int32))), .unset] [(.int (0 : Int32))])) _
        exact kk
    · skip
      refine ⟨T35, _, X35, N35, rfl, fun tgt kk => ?_⟩
      have kq48 : ((.int (bI ((¬ (off = (3 : Int32))) ∧ (((own_el off ((nar .byte p1.toInt8.toInt32)) ((nar .byte p2.toInt8.toInt32)) ((nar .byte p3.toInt8.toInt32))) &&& (255 : Int32)) = (own_ref (own_pick (off) (p1) (p2) (p3))))))) : Value) = (.int (0 : Int32)) := (congrArg Value.int (bI_f (fun q => hc65_38 q.1)))
      rw [kq48] at kk
      refine pre37 tgt ?_
      refine XS.ifYes X35.here hx rfl (pc0 := 65) (pc' := 88) rfl (hb hby at_65) rfl (bB_eq_t hc65_38) (by decide) (by decide) ?_
      show Steps p.tables e below (T35.setTop (mkF m 88 #[.val (.int p1), .val (.int p2), .val (.int p3), .val (.int p4), .val (.ref b2), .val (.int off), .val (.ref b20), .val (.int (bI (¬ (off = (3 : Int32))))), .val (.int ((own_el off ((nar .byte p1.toInt8.toInt32)) ((nar .byte p2.toInt8.toInt32)) ((nar .byte p3.toInt8.toInt32))) &&& (255 : Int32))), .unset] [])) _
      refine XS.iconst X35.here hx rfl (hb hby at_88) ?_
      show Steps p.tables e below (T35.setTop (mkF m 89 #[.val (.int p1), .val (.int p2), .val (.int p3), .val (.int p4), .val (.ref b2), .val (.int off), .val (.ref b20), .val (.int (bI (¬ (off = (3 : Int32))))), .val (.int ((own_el off ((nar .byte p1.toInt8.toInt32)) ((nar .byte p2.toInt8.toInt32)) ((nar .byte p3.toInt8.toInt32))) &&& (255 : Int32))), .unset] [(.int (0 : Int32))])) _
      exact kk
  have pre49 : ∀ tgt, Steps p.tables e below (T45.setTop (mkF m 93 #[.val (.int p1), .val (.int p2), .val (.int p3), .val (.int p4), .val (.ref b2), .val (.int off), .val (.ref b20), .val (.int (bI ((¬ (off = (3 : Int32))) ∧ (((own_el off ((nar .byte p1.toInt8.toInt32)) ((nar .byte p2.toInt8.toInt32)) ((nar .byte p3.toInt8.toInt32))) &&& (255 : Int32)) = (own_ref (own_pick (off) (p1) (p2) (p3))))))), .val (.int ((own_el off ((nar .byte p1.toInt8.toInt32)) ((nar .byte p2.toInt8.toInt32)) ((nar .byte p3.toInt8.toInt32))) &&& (255 : Int32))), .unset] [(.int (bI ((¬ (off = (3 : Int32))) ∧ (((own_el off ((nar .byte p1.toInt8.toInt32)) ((nar .byte p2.toInt8.toInt32)) ((nar .byte p3.toInt8.toInt32))) &&& (255 : Int32)) = (own_ref (own_pick (off) (p1) (p2) (p3)))))))])) tgt → Steps p.tables e below (s₁.setTop (entryFrame m #[(.int p1), (.int p2), (.int p3), (.int p4)] maxLocals)) tgt := by
    intro tgt kk
    refine pre45 tgt ?_
    refine XS.istore X45.here hx rfl (hb hby at_89) rfl (l' := #[.val (.int p1), .val (.int p2), .val (.int p3), .val (.int p4), .val (.ref b2), .val (.int off), .val (.ref b20), .val (.int (bI ((¬ (off = (3 : Int32))) ∧ (((own_el off ((nar .byte p1.toInt8.toInt32)) ((nar .byte p2.toInt8.toInt32)) ((nar .byte p3.toInt8.toInt32))) &&& (255 : Int32)) = (own_ref (own_pick (off) (p1) (p2) (p3))))))), .val (.int ((own_el off ((nar .byte p1.toInt8.toInt32)) ((nar .byte p2.toInt8.toInt32)) ((nar .byte p3.toInt8.toInt32))) &&& (255 : Int32))), .unset]) rfl ?_
    show Steps p.tables e below (T45.setTop (mkF m 91 #[.val (.int p1), .val (.int p2), .val (.int p3), .val (.int p4), .val (.ref b2), .val (.int off), .val (.ref b20), .val (.int (bI ((¬ (off = (3 : Int32))) ∧ (((own_el off ((nar .byte p1.toInt8.toInt32)) ((nar .byte p2.toInt8.toInt32)) ((nar .byte p3.toInt8.toInt32))) &&& (255 : Int32)) = (own_ref (own_pick (off) (p1) (p2) (p3))))))), .val (.int ((own_el off ((nar .byte p1.toInt8.toInt32)) ((nar .byte p2.toInt8.toInt32)) ((nar .byte p3.toInt8.toInt32))) &&& (255 : Int32))), .unset] [])) _
    refine XS.iload X45.here hx rfl (hb hby at_91) rfl ?_
    show Steps p.tables e below (T45.setTop (mkF m 93 #[.val (.int p1), .val (.int p2), .val (.int p3), .val (.int p4), .val (.ref b2), .val (.int off), .val (.ref b20), .val (.int (bI ((¬ (off = (3 : Int32))) ∧ (((own_el off ((nar .byte p1.toInt8.toInt32)) ((nar .byte p2.toInt8.toInt32)) ((nar .byte p3.toInt8.toInt32))) &&& (255 : Int32)) = (own_ref (own_pick (off) (p1) (p2) (p3))))))), .val (.int ((own_el off ((nar .byte p1.toInt8.toInt32)) ((nar .byte p2.toInt8.toInt32)) ((nar .byte p3.toInt8.toInt32))) &&& (255 : Int32))), .unset] [(.int (bI ((¬ (off = (3 : Int32))) ∧ (((own_el off ((nar .byte p1.toInt8.toInt32)) ((nar .byte p2.toInt8.toInt32)) ((nar .byte p3.toInt8.toInt32))) &&& (255 : Int32)) = (own_ref (own_pick (off) (p1) (p2) (p3)))))))])) _
    exact kk
  obtain ⟨T55, lo55, X55, N55, e55, pre55⟩ : ∃ (T' : State) (lo : List Loc), Stand p l e room_1 s m #[(.int p1), (.int p2), (.int p3), (.int p4)] below meth c T' lo 2 5 ∧ Fr n0 lo ∧ T'.heap = T35.heap ∧ ∀ tgt, Steps p.tables e below (T'.setTop (mkF m 114 #[.val (.int p1), .val (.int p2), .val (.int p3), .val (.int p4), .val (.ref b2), .val (.int off), .val (.ref b20), .val (.int (bI ((¬ (off = (3 : Int32))) ∧ (((own_el off ((nar .byte p1.toInt8.toInt32)) ((nar .byte p2.toInt8.toInt32)) ((nar .byte p3.toInt8.toInt32))) &&& (255 : Int32)) = (own_ref (own_pick (off) (p1) (p2) (p3))))))), .val (.int ((own_el off ((nar .byte p1.toInt8.toInt32)) ((nar .byte p2.toInt8.toInt32)) ((nar .byte p3.toInt8.toInt32))) &&& (255 : Int32))), .unset] [(.int (bI (((¬ (off = (3 : Int32))) ∧ (((own_el off ((nar .byte p1.toInt8.toInt32)) ((nar .byte p2.toInt8.toInt32)) ((nar .byte p3.toInt8.toInt32))) &&& (255 : Int32)) = (own_ref (own_pick (off) (p1) (p2) (p3))))) ∧ (¬ (((own_el off ((nar .byte p1.toInt8.toInt32)) ((nar .byte p2.toInt8.toInt32)) ((nar .byte p3.toInt8.toInt32))) &&& (255 : Int32)) < (0 : Int32)) ∧ (¬ ((255 : Int32) < ((own_el off ((nar .byte p1.toInt8.toInt32)) ((nar .byte p2.toInt8.toInt32)) ((nar .byte p3.toInt8.toInt32))) &&& (255 : Int32))))))))])) tgt → Steps p.tables e below (s₁.setTop (entryFrame m #[(.int p1), (.int p2), (.int p3), (.int p4)] maxLocals)) tgt := by
    by_cases hc93_50 : (¬ (off = (3 : Int32))) ∧ (((own_el off ((nar .byte p1.toInt8.toInt32)) ((nar .byte p2.toInt8.toInt32)) ((nar .byte p3.toInt8.toInt32))) &&& (255 : Int32)) = (own_ref (own_pick (off) (p1) (p2) (p3))))
    · skip
      have pre51 : ∀ tgt, Steps p.tables e below (T45.setTop (mkF m 98 #[.val (.int p1), .val (.int p2), .val (.int p3), .val (.int p4), .val (.ref b2), .val (.int off), .val (.ref b20), .val (.int (bI ((¬ (off = (3 : Int32))) ∧ (((own_el off ((nar .byte p1.toInt8.toInt32)) ((nar .byte p2.toInt8.toInt32)) ((nar .byte p3.toInt8.toInt32))) &&& (255 : Int32)) = (own_ref (own_pick (off) (p1) (p2) (p3))))))), .val (.int ((own_el off ((nar .byte p1.toInt8.toInt32)) ((nar .byte p2.toInt8.toInt32)) ((nar .byte p3.toInt8.toInt32))) &&& (255 : Int32))), .unset] [(.int ((own_el off ((nar .byte p1.toInt8.toInt32)) ((nar .byte p2.toInt8.toInt32)) ((nar .byte p3.toInt8.toInt32))) &&& (255 : Int32)))])) tgt → Steps p.tables e below (s₁.setTop (entryFrame m #[(.int p1), (.int p2), (.int p3), (.int p4)] maxLocals)) tgt := by
        intro tgt kk
        refine pre49 tgt ?_
        refine XS.ifNo X45.here hx rfl (hb hby at_93) rfl (bB_eq_f hc93_50) ?_
        show Steps p.tables e below (T45.setTop (mkF m 96 #[.val (.int p1), .val (.int p2), .val (.int p3), .val (.int p4), .val (.ref b2), .val (.int off), .val (.ref b20), .val (.int (bI ((¬ (off = (3 : Int32))) ∧ (((own_el off ((nar .byte p1.toInt8.toInt32)) ((nar .byte p2.toInt8.toInt32)) ((nar .byte p3.toInt8.toInt32))) &&& (255 : Int32)) = (own_ref (own_pick (off) (p1) (p2) (p3))))))), .val (.int ((own_el off ((nar .byte p1.toInt8.toInt32)) ((nar .byte p2.toInt8.toInt32)) ((nar .byte p3.toInt8.toInt32))) &&& (255 : Int32))), .unset] [])) _
        refine XS.iload X45.here hx rfl (hb hby at_96) rfl ?_
        show Steps p.tables e below (T45.setTop (mkF m 98 #[.val (.int p1), .val (.int p2), .val (.int p3), .val (.int p4), .val (.ref b2), .val (.int off), .val (.ref b20), .val (.int (bI ((¬ (off = (3 : Int32))) ∧ (((own_el off ((nar .byte p1.toInt8.toInt32)) ((nar .byte p2.toInt8.toInt32)) ((nar .byte p3.toInt8.toInt32))) &&& (255 : Int32)) = (own_ref (own_pick (off) (p1) (p2) (p3))))))), .val (.int ((own_el off ((nar .byte p1.toInt8.toInt32)) ((nar .byte p2.toInt8.toInt32)) ((nar .byte p3.toInt8.toInt32))) &&& (255 : Int32))), .unset] [(.int ((own_el off ((nar .byte p1.toInt8.toInt32)) ((nar .byte p2.toInt8.toInt32)) ((nar .byte p3.toInt8.toInt32))) &&& (255 : Int32)))])) _
        exact kk
      by_cases hc98_52 : ((own_el off ((nar .byte p1.toInt8.toInt32)) ((nar .byte p2.toInt8.toInt32)) ((nar .byte p3.toInt8.toInt32))) &&& (255 : Int32)) < (0 : Int32)
      · skip
        refine ⟨T45, _, X45, N45, e45, fun tgt kk => ?_⟩
        have kq56 : ((.int (bI (((¬ (off = (3 : Int32))) ∧ (((own_el off ((nar .byte p1.toInt8.toInt32)) ((nar .byte p2.toInt8.toInt32)) ((nar .byte p3.toInt8.toInt32))) &&& (255 : Int32)) = (own_ref (own_pick (off) (p1) (p2) (p3))))) ∧ (¬ (((own_el off ((nar .byte p1.toInt8.toInt32)) ((nar .byte p2.toInt8.toInt32)) ((nar .byte p3.toInt8.toInt32))) &&& (255 : Int32)) < (0 : Int32)) ∧ (¬ ((255 : Int32) < ((own_el off ((nar .byte p1.toInt8.toInt32)) ((nar .byte p2.toInt8.toInt32)) ((nar .byte p3.toInt8.toInt32))) &&& (255 : Int32)))))))) : Value) = (.int (0 : Int32)) := ((congrArg Value.int (bI_iff (and_iff_right hc93_50))).trans (congrArg Value.int (bI_f (fun q => q.1 hc98_52))))
        rw [kq56] at kk
        refine pre51 tgt ?_
        refine XS.ifYes X45.here hx rfl (pc0 := 98) (pc' := 113) rfl (hb hby at_98) rfl (XT.i0_lt_t hc98_52) (by decide) (by decide) ?_
        show Steps p.tables e below (T45.setTop (mkF m 113 #[.val (.int p1), .val (.int p2), .val (.int p3), .val (.int p4), .val (.ref b2), .val (.int off), .val (.ref b20), .val (.int (bI ((¬ (off = (3 : Int32))) ∧ (((own_el off ((nar .byte p1.toInt8.toInt32)) ((nar .byte p2.toInt8.toInt32)) ((nar .byte p3.toInt8.toInt32))) &&& (255 : Int32)) = (own_ref (own_pick (off) (p1) (p2) (p3))))))), .val (.int ((own_el off ((nar .byte p1.toInt8.toInt32)) ((nar .byte p2.toInt8.toInt32)) ((nar .byte p3.toInt8.toInt32))) &&& (255 : Int32))), .unset] [])) _
        refine XS.iconst X45.here hx rfl (hb hby at_113) ?_
        show Steps p.tables e below (T45.setTop (mkF m 114 #[.val (.int p1), .val (.int p2), .val (.int p3), .val (.int p4), .val (.ref b2), .val (.int off), .val (.ref b20), .val (.int (bI ((¬ (off = (3 : Int32))) ∧ (((own_el off ((nar .byte p1.toInt8.toInt32)) ((nar .byte p2.toInt8.toInt32)) ((nar .byte p3.toInt8.toInt32))) &&& (255 : Int32)) = (own_ref (own_pick (off) (p1) (p2) (p3))))))), .val (.int ((own_el off ((nar .byte p1.toInt8.toInt32)) ((nar .byte p2.toInt8.toInt32)) ((nar .byte p3.toInt8.toInt32))) &&& (255 : Int32))), .unset] [(.int (0 : Int32))])) _
        exact kk
      · skip
        have pre53 : ∀ tgt, Steps p.tables e below (T45.setTop (mkF m 106 #[.val (.int p1), .val (.int p2), .val (.int p3), .val (.int p4), .val (.ref b2), .val (.int off), .val (.ref b20), .val (.int (bI ((¬ (off = (3 : Int32))) ∧ (((own_el off ((nar .byte p1.toInt8.toInt32)) ((nar .byte p2.toInt8.toInt32)) ((nar .byte p3.toInt8.toInt32))) &&& (255 : Int32)) = (own_ref (own_pick (off) (p1) (p2) (p3))))))), .val (.int ((own_el off ((nar .byte p1.toInt8.toInt32)) ((nar .byte p2.toInt8.toInt32)) ((nar .byte p3.toInt8.toInt32))) &&& (255 : Int32))), .unset] [(.int (255 : Int32)), (.int ((own_el off ((nar .byte p1.toInt8.toInt32)) ((nar .byte p2.toInt8.toInt32)) ((nar .byte p3.toInt8.toInt32))) &&& (255 : Int32)))])) tgt → Steps p.tables e below (s₁.setTop (entryFrame m #[(.int p1), (.int p2), (.int p3), (.int p4)] maxLocals)) tgt := by
          intro tgt kk
          refine pre51 tgt ?_
          refine XS.ifNo X45.here hx rfl (hb hby at_98) rfl (XT.i0_lt_f hc98_52) ?_
          show Steps p.tables e below (T45.setTop (mkF m 101 #[.val (.int p1), .val (.int p2), .val (.int p3), .val (.int p4), .val (.ref b2), .val (.int off), .val (.ref b20), .val (.int (bI ((¬ (off = (3 : Int32))) ∧ (((own_el off ((nar .byte p1.toInt8.toInt32)) ((nar .byte p2.toInt8.toInt32)) ((nar .byte p3.toInt8.toInt32))) &&& (255 : Int32)) = (own_ref (own_pick (off) (p1) (p2) (p3))))))), .val (.int ((own_el off ((nar .byte p1.toInt8.toInt32)) ((nar .byte p2.toInt8.toInt32)) ((nar .byte p3.toInt8.toInt32))) &&& (255 : Int32))), .unset] [])) _
          refine XS.iload X45.here hx rfl (hb hby at_101) rfl ?_
          show Steps p.tables e below (T45.setTop (mkF m 103 #[.val (.int p1), .val (.int p2), .val (.int p3), .val (.int p4), .val (.ref b2), .val (.int off), .val (.ref b20), .val (.int (bI ((¬ (off = (3 : Int32))) ∧ (((own_el off ((nar .byte p1.toInt8.toInt32)) ((nar .byte p2.toInt8.toInt32)) ((nar .byte p3.toInt8.toInt32))) &&& (255 : Int32)) = (own_ref (own_pick (off) (p1) (p2) (p3))))))), .val (.int ((own_el off ((nar .byte p1.toInt8.toInt32)) ((nar .byte p2.toInt8.toInt32)) ((nar .byte p3.toInt8.toInt32))) &&& (255 : Int32))), .unset] [(.int ((own_el off ((nar .byte p1.toInt8.toInt32)) ((nar .byte p2.toInt8.toInt32)) ((nar .byte p3.toInt8.toInt32))) &&& (255 : Int32)))])) _
          refine XS.sipush X45.here hx rfl (hb hby at_103) ?_
          show Steps p.tables e below (T45.setTop (mkF m 106 #[.val (.int p1), .val (.int p2), .val (.int p3), .val (.int p4), .val (.ref b2), .val (.int off), .val (.ref b20), .val (.int (bI ((¬ (off = (3 : Int32))) ∧ (((own_el off ((nar .byte p1.toInt8.toInt32)) ((nar .byte p2.toInt8.toInt32)) ((nar .byte p3.toInt8.toInt32))) &&& (255 : Int32)) = (own_ref (own_pick (off) (p1) (p2) (p3))))))), .val (.int ((own_el off ((nar .byte p1.toInt8.toInt32)) ((nar .byte p2.toInt8.toInt32)) ((nar .byte p3.toInt8.toInt32))) &&& (255 : Int32))), .unset] [(.int (255 : Int32)), (.int ((own_el off ((nar .byte p1.toInt8.toInt32)) ((nar .byte p2.toInt8.toInt32)) ((nar .byte p3.toInt8.toInt32))) &&& (255 : Int32)))])) _
          exact kk
        by_cases hc106_54 : (255 : Int32) < ((own_el off ((nar .byte p1.toInt8.toInt32)) ((nar .byte p2.toInt8.toInt32)) ((nar .byte p3.toInt8.toInt32))) &&& (255 : Int32))
        · skip
          refine ⟨T45, _, X45, N45, e45, fun tgt kk => ?_⟩
          have kq57 : ((.int (bI (((¬ (off = (3 : Int32))) ∧ (((own_el off ((nar .byte p1.toInt8.toInt32)) ((nar .byte p2.toInt8.toInt32)) ((nar .byte p3.toInt8.toInt32))) &&& (255 : Int32)) = (own_ref (own_pick (off) (p1) (p2) (p3))))) ∧ (¬ (((own_el off ((nar .byte p1.toInt8.toInt32)) ((nar .byte p2.toInt8.toInt32)) ((nar .byte p3.toInt8.toInt32))) &&& (255 : Int32)) < (0 : Int32)) ∧ (¬ ((255 : Int32) < ((own_el off ((nar .byte p1.toInt8.toInt32)) ((nar .byte p2.toInt8.toInt32)) ((nar .byte p3.toInt8.toInt32))) &&& (255 : Int32)))))))) : Value) = (.int (0 : Int32)) := ((congrArg Value.int (bI_iff (and_iff_right hc93_50))).trans ((congrArg Value.int (bI_iff (and_iff_right hc98_52))).trans (congrArg Value.int (bI_f (not_not_intro hc106_54)))))
          rw [kq57] at kk
          refine pre53 tgt ?_
          refine XS.icmpYes X45.here hx rfl (pc0 := 106) (pc' := 113) rfl (hb hby at_106) rfl (XT.ii_gt_t hc106_54) (by decide) (by decide) ?_
          show Steps p.tables e below (T45.setTop (mkF m 113 #[.val (.int p1), .val (.int p2), .val (.int p3), .val (.int p4), .val (.ref b2), .val (.int off), .val (.ref b20), .val (.int (bI ((¬ (off = (3 : Int32))) ∧ (((own_el off ((nar .byte p1.toInt8.toInt32)) ((nar .byte p2.toInt8.toInt32)) ((nar .byte p3.toInt8.toInt32))) &&& (255 : Int32)) = (own_ref (own_pick (off) (p1) (p2) (p3))))))), .val (.int ((own_el off ((nar .byte p1.toInt8.toInt32)) ((nar .byte p2.toInt8.toInt32)) ((nar .byte p3.toInt8.toInt32))) &&& (255 : Int32))), .unset] [])) _
          refine XS.iconst X45.here hx rfl (hb hby at_113) ?_
          show Steps p.tables e below (T45.setTop (mkF m 114 #[.val (.int p1), .val (.int p2), .val (.int p3), .val (.int p4), .val (.ref b2), .val (.int off), .val (.ref b20), .val (.int (bI ((¬ (off = (3 : Int32))) ∧ (((own_el off ((nar .byte p1.toInt8.toInt32)) ((nar .byte p2.toInt8.toInt32)) ((nar .byte p3.toInt8.toInt32))) &&& (255 : Int32)) = (own_ref (own_pick (off) (p1) (p2) (p3))))))), .val (.int ((own_el off ((nar .byte p1.toInt8.toInt32)) ((nar .byte p2.toInt8.toInt32)) ((nar .byte p3.toInt8.toInt32))) &&& (255 : Int32))), .unset] [(.int (0 : Int32))])) _
          exact kk
        · skip
          refine ⟨T45, _, X45, N45, e45, fun tgt kk => ?_⟩
          have kq58 : ((.int (bI (((¬ (off = (3 : Int32))) ∧ (((own_el off ((nar .byte p1.toInt8.toInt32)) ((nar .byte p2.toInt8.toInt32)) ((nar .byte p3.toInt8.toInt32))) &&& (255 : Int32)) = (own_ref (own_pick (off) (p1) (p2) (p3))))) ∧ (¬ (((own_el off ((nar .byte p1.toInt8.toInt32)) ((nar .byte p2.toInt8.toInt32)) ((nar .byte p3.toInt8.toInt32))) &&& (255 : Int32)) < (0 : Int32)) ∧ (¬ ((255 : Int32) < ((own_el off ((nar .byte p1.toInt8.toInt32)) ((nar .byte p2.toInt8.toInt32)) ((nar .byte p3.toInt8.toInt32))) &&& (255 : Int32)))))))) : Value) = (.int (1 : Int32)) := ((congrArg Value.int (bI_iff (and_iff_right hc93_50))).trans ((congrArg Value.int (bI_iff (and_iff_right hc98_52))).trans (congrArg Value.int (bI_t hc106_54))))
          rw [kq58] at kk
          refine pre53 tgt ?_
          refine XS.icmpNo X45.here hx rfl (hb hby at_106) rfl (XT.ii_gt_f hc106_54) ?_
          show Steps p.tables e below (T45.setTop (mkF m 109 #[.val (.int p1), .val (.int p2), .val (.int p3), .val (.int p4), .val (.ref b2), .val (.int off), .val (.ref b20), .val (.int (bI ((¬ (off = (3 : Int32))) ∧ (((own_el off ((nar .byte p1.toInt8.toInt32)) ((nar .byte p2.toInt8.toInt32)) ((nar .byte p3.toInt8.toInt32))) &&& (255 : Int32)) = (own_ref (own_pick (off) (p1) (p2) (p3))))))), .val (.int ((own_el off ((nar .byte p1.toInt8.toInt32)) ((nar .byte p2.toInt8.toInt32)) ((nar .byte p3.toInt8.toInt32))) &&& (255 : Int32))), .unset] [])) _
          refine XS.iconst X45.here hx rfl (hb hby at_109) ?_
          show Steps p.tables e below (T45.setTop (mkF m 110 #[.val (.int p1), .val (.int p2), .val (.int p3), .val (.int p4), .val (.ref b2), .val (.int off), .val (.ref b20), .val (.int (bI ((¬ (off = (3 : Int32))) ∧ (((own_el off ((nar .byte p1.toInt8.toInt32)) ((nar .byte p2.toInt8.toInt32)) ((nar .byte p3.toInt8.toInt32))) &&& (255 : Int32)) = (own_ref (own_pick (off) (p1) (p2) (p3))))))), .val (.int ((own_el off ((nar .byte p1.toInt8.toInt32)) ((nar .byte p2.toInt8.toInt32)) ((nar .byte p3.toInt8.toInt32))) &&& (255 : Int32))), .unset] [(.int (1 : Int32))])) _
          refine XS.goto X45.here hx rfl (pc0 := 110) (pc' := 114) rfl (hb hby at_110) (by decide) (by decide) ?_
          show Steps p.tables e below (T45.setTop (mkF m 114 #[.val (.int p1), .val (.int p2), .val (.int p3), .val (.int p4), .val (.ref b2), .val (.int off), .val (.ref b20), .val (.int (bI ((¬ (off = (3 : Int32))) ∧ (((own_el off ((nar .byte p1.toInt8.toInt32)) ((nar .byte p2.toInt8.toInt32)) ((nar .byte p3.toInt8.toInt32))) &&& (255 : Int32)) = (own_ref (own_pick (off) (p1) (p2) (p3))))))), .val (.int ((own_el off ((nar .byte p1.toInt8.toInt32)) ((nar .byte p2.toInt8.toInt32)) ((nar .byte p3.toInt8.toInt32))) &&& (255 : Int32))), .unset] [(.int (1 : Int32))])) _
          exact kk
    · skip
      refine ⟨T45, _, X45, N45, e45, fun tgt kk => ?_⟩
      have kq59 : ((.int (bI (((¬ (off = (3 : Int32))) ∧ (((own_el off ((nar .byte p1.toInt8.toInt32)) ((nar .byte p2.toInt8.toInt32)) ((nar .byte p3.toInt8.toInt32))) &&& (255 : Int32)) = (own_ref (own_pick (off) (p1) (p2) (p3))))) ∧ (¬ (((own_el off ((nar .byte p1.toInt8.toInt32)) ((nar .byte p2.toInt8.toInt32)) ((nar .byte p3.toInt8.toInt32))) &&& (255 : Int32)) < (0 : Int32)) ∧ (¬ ((255 : Int32) < ((own_el off ((nar .byte p1.toInt8.toInt32)) ((nar .byte p2.toInt8.toInt32)) ((nar .byte p3.toInt8.toInt32))) &&& (255 : Int32)))))))) : Value) = (.int (0 : Int32)) := (congrArg Value.int (bI_f (fun q => hc93_50 q.1)))
      rw [kq59] at kk
      refine pre49 tgt ?_
      refine XS.ifYes X45.here hx rfl (pc0 := 93) (pc' := 113) rfl (hb hby at_93) rfl (bB_eq_t hc93_50) (by decide) (by decide) ?_
      show Steps p.tables e below (T45.setTop (mkF m 113 #[.val (.int p1), .val (.int p2), .val (.int p3), .val (.int p4), .val (.ref b2), .val (.int off), .val (.ref b20), .val (.int (bI ((¬ (off = (3 : Int32))) ∧ (((own_el off ((nar .byte p1.toInt8.toInt32)) ((nar .byte p2.toInt8.toInt32)) ((nar .byte p3.toInt8.toInt32))) &&& (255 : Int32)) = (own_ref (own_pick (off) (p1) (p2) (p3))))))), .val (.int ((own_el off ((nar .byte p1.toInt8.toInt32)) ((nar .byte p2.toInt8.toInt32)) ((nar .byte p3.toInt8.toInt32))) &&& (255 : Int32))), .unset] [])) _
      refine XS.iconst X45.here hx rfl (hb hby at_113) ?_
      show Steps p.tables e below (T45.setTop (mkF m 114 #[.val (.int p1), .val (.int p2), .val (.int p3), .val (.int p4), .val (.ref b2), .val (.int off), .val (.ref b20), .val (.int (bI ((¬ (off = (3 : Int32))) ∧ (((own_el off ((nar .byte p1.toInt8.toInt32)) ((nar .byte p2.toInt8.toInt32)) ((nar .byte p3.toInt8.toInt32))) &&& (255 : Int32)) = (own_ref (own_pick (off) (p1) (p2) (p3))))))), .val (.int ((own_el off ((nar .byte p1.toInt8.toInt32)) ((nar .byte p2.toInt8.toInt32)) ((nar .byte p3.toInt8.toInt32))) &&& (255 : Int32))), .unset] [(.int (0 : Int32))])) _
      exact kk
  have pre60 : ∀ tgt, Steps p.tables e below (T55.setTop (mkF m 118 #[.val (.int p1), .val (.int p2), .val (.int p3), .val (.int p4), .val (.ref b2), .val (.int off), .val (.ref b20), .val (.int (bI (((¬ (off = (3 : Int32))) ∧ (((own_el off ((nar .byte p1.toInt8.toInt32)) ((nar .byte p2.toInt8.toInt32)) ((nar .byte p3.toInt8.toInt32))) &&& (255 : Int32)) = (own_ref (own_pick (off) (p1) (p2) (p3))))) ∧ (¬ (((own_el off ((nar .byte p1.toInt8.toInt32)) ((nar .byte p2.toInt8.toInt32)) ((nar .byte p3.toInt8.toInt32))) &&& (255 : Int32)) < (0 : Int32)) ∧ (¬ ((255 : Int32) < ((own_el off ((nar .byte p1.toInt8.toInt32)) ((nar .byte p2.toInt8.toInt32)) ((nar .byte p3.toInt8.toInt32))) &&& (255 : Int32)))))))), .val (.int ((own_el off ((nar .byte p1.toInt8.toInt32)) ((nar .byte p2.toInt8.toInt32)) ((nar .byte p3.toInt8.toInt32))) &&& (255 : Int32))), .unset] [(.int (bI (((¬ (off = (3 : Int32))) ∧ (((own_el off ((nar .byte p1.toInt8.toInt32)) ((nar .byte p2.toInt8.toInt32)) ((nar .byte p3.toInt8.toInt32))) &&& (255 : Int32)) = (own_ref (own_pick (off) (p1) (p2) (p3))))) ∧ (¬ (((own_el off ((nar .byte p1.toInt8.toInt32)) ((nar .byte p2.toInt8.toInt32)) ((nar .byte p3.toInt8.toInt32))) &&& (255 : Int32)) < (0 : Int32)) ∧ (¬ ((255 : Int32) < ((own_el off ((nar .byte p1.toInt8.toInt32)) ((nar .byte p2.toInt8.toInt32)) ((nar .byte p3.toInt8.toInt32))) &&& (255 : Int32))))))))])) tgt → Steps p.tables e below (s₁.setTop (entryFrame m #[(.int p1), (.int p2), (.int p3), (.int p4)] maxLocals)) tgt := by
    intro tgt kk
    refine pre55 tgt ?_
    refine XS.istore X55.here hx rfl (hb hby at_114) rfl (l' := #[.val (.int p1), .val (.int p2), .val (.int p3), .val (.int p4), .val (.ref b2), .val (.int off), .val (.ref b20), .val (.int (bI (((¬ (off = (3 : Int32))) ∧ (((own_el off ((nar .byte p1.toInt8.toInt32)) ((nar .byte p2.toInt8.toInt32)) ((nar .byte p3.toInt8.toInt32))) &&& (255 : Int32)) = (own_ref (own_pick (off) (p1) (p2) (p3))))) ∧ (¬ (((own_el off ((nar .byte p1.toInt8.toInt32)) ((nar .byte p2.toInt8.toInt32)) ((nar .byte p3.toInt8.toInt32))) &&& (255 : Int32)) < (0 : Int32)) ∧ (¬ ((255 : Int32) < ((own_el off ((nar .byte p1.toInt8.toInt32)) ((nar .byte p2.toInt8.toInt32)) ((nar .byte p3.toInt8.toInt32))) &&& (255 : Int32)))))))), .val (.int ((own_el off ((nar .byte p1.toInt8.toInt32)) ((nar .byte p2.toInt8.toInt32)) ((nar .byte p3.toInt8.toInt32))) &&& (255 : Int32))), .unset]) rfl ?_
    show Steps p.tables e below (T55.setTop (mkF m 116 #[.val (.int p1), .val (.int p2), .val (.int p3), .val (.int p4), .val (.ref b2), .val (.int off), .val (.ref b20), .val (.int (bI (((¬ (off = (3 : Int32))) ∧ (((own_el off ((nar .byte p1.toInt8.toInt32)) ((nar .byte p2.toInt8.toInt32)) ((nar .byte p3.toInt8.toInt32))) &&& (255 : Int32)) = (own_ref (own_pick (off) (p1) (p2) (p3))))) ∧ (¬ (((own_el off ((nar .byte p1.toInt8.toInt32)) ((nar .byte p2.toInt8.toInt32)) ((nar .byte p3.toInt8.toInt32))) &&& (255 : Int32)) < (0 : Int32)) ∧ (¬ ((255 : Int32) < ((own_el off ((nar .byte p1.toInt8.toInt32)) ((nar .byte p2.toInt8.toInt32)) ((nar .byte p3.toInt8.toInt32))) &&& (255 : Int32)))))))), .val (.int ((own_el off ((nar .byte p1.toInt8.toInt32)) ((nar .byte p2.toInt8.toInt32)) ((nar .byte p3.toInt8.toInt32))) &&& (255 : Int32))), .unset] [])) _
    refine XS.iload X55.here hx rfl (hb hby at_116) rfl ?_
    show Steps p.tables e below (T55.setTop (mkF m 118 #[.val (.int p1), .val (.int p2), .val (.int p3), .val (.int p4), .val (.ref b2), .val (.int off), .val (.ref b20), .val (.int (bI (((¬ (off = (3 : Int32))) ∧ (((own_el off ((nar .byte p1.toInt8.toInt32)) ((nar .byte p2.toInt8.toInt32)) ((nar .byte p3.toInt8.toInt32))) &&& (255 : Int32)) = (own_ref (own_pick (off) (p1) (p2) (p3))))) ∧ (¬ (((own_el off ((nar .byte p1.toInt8.toInt32)) ((nar .byte p2.toInt8.toInt32)) ((nar .byte p3.toInt8.toInt32))) &&& (255 : Int32)) < (0 : Int32)) ∧ (¬ ((255 : Int32) < ((own_el off ((nar .byte p1.toInt8.toInt32)) ((nar .byte p2.toInt8.toInt32)) ((nar .byte p3.toInt8.toInt32))) &&& (255 : Int32)))))))), .val (.int ((own_el off ((nar .byte p1.toInt8.toInt32)) ((nar .byte p2.toInt8.toInt32)) ((nar .byte p3.toInt8.toInt32))) &&& (255 : Int32))), .unset] [(.int (bI (((¬ (off = (3 : Int32))) ∧ (((own_el off ((nar .byte p1.toInt8.toInt32)) ((nar .byte p2.toInt8.toInt32)) ((nar .byte p3.toInt8.toInt32))) &&& (255 : Int32)) = (own_ref (own_pick (off) (p1) (p2) (p3))))) ∧ (¬ (((own_el off ((nar .byte p1.toInt8.toInt32)) ((nar .byte p2.toInt8.toInt32)) ((nar .byte p3.toInt8.toInt32))) &&& (255 : Int32)) < (0 : Int32)) ∧ (¬ ((255 : Int32) < ((own_el off ((nar .byte p1.toInt8.toInt32)) ((nar .byte p2.toInt8.toInt32)) ((nar .byte p3.toInt8.toInt32))) &&& (255 : Int32))))))))])) _
    exact kk
  obtain ⟨T70, lo70, X70, N70, e70, pre70⟩ : ∃ (T' : State) (lo : List Loc), Stand p l e room_1 s m #[(.int p1), (.int p2), (.int p3), (.int p4)] below meth c T' lo 2 5 ∧ Fr n0 lo ∧ T'.heap = T35.heap ∧ ∀ tgt, Steps p.tables e below (T'.setTop (mkF m 145 #[.val (.int p1), .val (.int p2), .val (.int p3), .val (.int p4), .val (.ref b2), .val (.int off), .val (.ref b20), .val (.int (bI (((¬ (off = (3 : Int32))) ∧ (((own_el off ((nar .byte p1.toInt8.toInt32)) ((nar .byte p2.toInt8.toInt32)) ((nar .byte p3.toInt8.toInt32))) &&& (255 : Int32)) = (own_ref (own_pick (off) (p1) (p2) (p3))))) ∧ (¬ (((own_el off ((nar .byte p1.toInt8.toInt32)) ((nar .byte p2.toInt8.toInt32)) ((nar .byte p3.toInt8.toInt32))) &&& (255 : Int32)) < (0 : Int32)) ∧ (¬ ((255 : Int32) < ((own_el off ((nar .byte p1.toInt8.toInt32)) ((nar .byte p2.toInt8.toInt32)) ((nar .byte p3.toInt8.toInt32))) &&& (255 : Int32)))))))), .val (.int ((own_el off ((nar .byte p1.toInt8.toInt32)) ((nar .byte p2.toInt8.toInt32)) ((nar .byte p3.toInt8.toInt32))) &&& (255 : Int32))), .unset] [(.int (bI ((((¬ (off = (3 : Int32))) ∧ (((own_el off ((nar .byte p1.toInt8.toInt32)) ((nar .byte p2.toInt8.toInt32)) ((nar .byte p3.toInt8.toInt32))) &&& (255 : Int32)) = (own_ref (own_pick (off) (p1) (p2) (p3))))) ∧ (¬ (((own_el off ((nar .byte p1.toInt8.toInt32)) ((nar .byte p2.toInt8.toInt32)) ((nar .byte p3.toInt8.toInt32))) &&& (255 : Int32)) < (0 : Int32)) ∧ (¬ ((255 : Int32) < ((own_el off ((nar .byte p1.toInt8.toInt32)) ((nar .byte p2.toInt8.toInt32)) ((nar .byte p3.toInt8.toInt32))) &&& (255 : Int32)))))) ∧ (((off + (1 : Int32)) = (3 : Int32)) ↔ (off = (2 : Int32))))))])) tgt → Steps p.tables e below (s₁.setTop (entryFrame m #[(.int p1), (.int p2), (.int p3), (.int p4)] maxLocals)) tgt := by
    by_cases hc118_61 : ((¬ (off = (3 : Int32))) ∧ (((own_el off ((nar .byte p1.toInt8.toInt32)) ((nar .byte p2.toInt8.toInt32)) ((nar .byte p3.toInt8.toInt32))) &&& (255 : Int32)) = (own_ref (own_pick (off) (p1) (p2) (p3))))) ∧ (¬ (((own_el off ((nar .byte p1.toInt8.toInt32)) ((nar .byte p2.toInt8.toInt32)) ((nar .byte p3.toInt8.toInt32))) &&& (255 : Int32)) < (0 : Int32)) ∧ (¬ ((255 : Int32) < ((own_el off ((nar .byte p1.toInt8.toInt32)) ((nar .byte p2.toInt8.toInt32)) ((nar .byte p3.toInt8.toInt32))) &&& (255 : Int32)))))
    · skip
      have pre62 : ∀ tgt, Steps p.tables e below (T55.setTop (mkF m 123 #[.val (.int p1), .val (.int p2), .val (.int p3), .val (.int p4), .val (.ref b2), .val (.int off), .val (.ref b20), .val (.int (bI (((¬ (off = (3 : Int32))) ∧ (((own_el off ((nar .byte p1.toInt8.toInt32)) ((nar .byte p2.toInt8.toInt32)) ((nar .byte p3.toInt8.toInt32))) &&& (255 : Int32)) = (own_ref (own_pick (off) (p1) (p2) (p3))))) ∧ (¬ (((own_el off ((nar .byte p1.toInt8.toInt32)) ((nar .byte p2.toInt8.toInt32)) ((nar .byte p3.toInt8.toInt32))) &&& (255 : Int32)) < (0 : Int32)) ∧ (¬ ((255 : Int32) < ((own_el off ((nar .byte p1.toInt8.toInt32)) ((nar .byte p2.toInt8.toInt32)) ((nar .byte p3.toInt8.toInt32))) &&& (255 : Int32)))))))), .val (.int ((own_el off ((nar .byte p1.toInt8.toInt32)) ((nar .byte p2.toInt8.toInt32)) ((nar .byte p3.toInt8.toInt32))) &&& (255 : Int32))), .unset] [(.ref b20)])) tgt → Steps p.tables e below (s₁.setTop (entryFrame m #[(.int p1), (.int p2), (.int p3), (.int p4)] maxLocals)) tgt := by
        intro tgt kk
        refine pre60 tgt ?_
        refine XS.ifNo X55.here hx rfl (hb hby at_118) rfl (bB_eq_f hc118_61) ?_
        show Steps p.tables e below (T55.setTop (mkF m 121 #[.val (.int p1), .val (.int p2), .val (.int p3), .val (.int p4), .val (.ref b2), .val (.int off), .val (.ref b20), .val (.int (bI (((¬ (off = (3 : Int32))) ∧ (((own_el off ((nar .byte p1.toInt8.toInt32)) ((nar .byte p2.toInt8.toInt32)) ((nar .byte p3.toInt8.toInt32))) &&& (255 : Int32)) = (own_ref (own_pick (off) (p1) (p2) (p3))))) ∧ (¬ (((own_el off ((nar .byte p1.toInt8.toInt32)) ((nar .byte p2.toInt8.toInt32)) ((nar .byte p3.toInt8.toInt32))) &&& (255 : Int32)) < (0 : Int32)) ∧ (¬ ((255 : Int32) < ((own_el off ((nar .byte p1.toInt8.toInt32)) ((nar .byte p2.toInt8.toInt32)) ((nar .byte p3.toInt8.toInt32))) &&& (255 : Int32)))))))), .val (.int ((own_el off ((nar .byte p1.toInt8.toInt32)) ((nar .byte p2.toInt8.toInt32)) ((nar .byte p3.toInt8.toInt32))) &&& (255 : Int32))), .unset] [])) _
        refine XS.aload X55.here hx rfl (hb hby at_121) rfl rfl ?_
        show Steps p.tables e below (T55.setTop (mkF m 123 #[.val (.int p1), .val (.int p2), .val (.int p3), .val (.int p4), .val (.ref b2), .val (.int off), .val (.ref b20), .val (.int (bI (((¬ (off = (3 : Int32))) ∧ (((own_el off ((nar .byte p1.toInt8.toInt32)) ((nar .byte p2.toInt8.toInt32)) ((nar .byte p3.toInt8.toInt32))) &&& (255 : Int32)) = (own_ref (own_pick (off) (p1) (p2) (p3))))) ∧ (¬ (((own_el off ((nar .byte p1.toInt8.toInt32)) ((nar .byte p2.toInt8.toInt32)) ((nar .byte p3.toInt8.toInt32))) &&& (255 : Int32)) < (0 : Int32)) ∧ (¬ ((255 : Int32) < ((own_el off ((nar .byte p1.toInt8.toInt32)) ((nar .byte p2.toInt8.toInt32)) ((nar .byte p3.toInt8.toInt32))) &&& (255 : Int32)))))))), .val (.int ((own_el off ((nar .byte p1.toInt8.toInt32)) ((nar .byte p2.toInt8.toInt32)) ((nar .byte p3.toInt8.toInt32))) &&& (255 : Int32))), .unset] [(.ref b20)])) _
        exact kk
      obtain ⟨cq63, kq63, q63a, q63b, q63c⟩ := isOf hZ e55 E_b20
      obtain ⟨_, _, ⟨T63, L63, k63, n63⟩, -, X63, ⟨Lc63, hQ63, l63, y63, z63⟩, st63⟩ := X55.virtualBack hx (y := (⟨"com/example/fir/fir/core/Decoder", "atEnd", "()Z"⟩ : MethodName)) (z := (⟨"com/example/fir/fir/core/Decoder", "atEnd", "()Z"⟩ : MethodName)) hown (mvT hZ (hw _ (List.mem_of_getElem? (i := 15) rfl))) (mvT hZ (hw _ (List.mem_of_getElem? (i := 16) rfl))) (notFace_of_selects (args := #[]) (mvT hZ (hw _ (List.mem_of_getElem? (i := 18) rfl)))) (mvT hZ (hw _ (List.mem_of_getElem? (i := 18) rfl))) (mvT hZ (hw _ (List.mem_of_getElem? (i := 17) rfl))) (by decide) (backOf (W := 0) (rmA l Z a0 hw [] b20 b2 k2 ((off + (1 : Int32))) ((nar .byte p1.toInt8.toInt32)) ((nar .byte p2.toInt8.toInt32)) ((nar .byte p3.toInt8.toInt32)) T35.heap n0 Zs36 F_bytes_b20 F_offset_b20 V_b2) hZ (hw _ (List.mem_of_getElem? (i := 19) rfl)) (hw _ (List.mem_of_getElem? (i := 4) rfl)) (by decide) (by decide)) q63a q63c (g := (mkF m 123 #[.val (.int p1), .val (.int p2), .val (.int p3), .val (.int p4), .val (.ref b2), .val (.int off), .val (.ref b20), .val (.int (bI (((¬ (off = (3 : Int32))) ∧ (((own_el off ((nar .byte p1.toInt8.toInt32)) ((nar .byte p2.toInt8.toInt32)) ((nar .byte p3.toInt8.toInt32))) &&& (255 : Int32)) = (own_ref (own_pick (off) (p1) (p2) (p3))))) ∧ (¬ (((own_el off ((nar .byte p1.toInt8.toInt32)) ((nar .byte p2.toInt8.toInt32)) ((nar .byte p3.toInt8.toInt32))) &&& (255 : Int32)) < (0 : Int32)) ∧ (¬ ((255 : Int32) < ((own_el off ((nar .byte p1.toInt8.toInt32)) ((nar .byte p2.toInt8.toInt32)) ((nar .byte p3.toInt8.toInt32))) &&& (255 : Int32)))))))), .val (.int ((own_el off ((nar .byte p1.toInt8.toInt32)) ((nar .byte p2.toInt8.toInt32)) ((nar .byte p3.toInt8.toInt32))) &&& (255 : Int32))), .unset] [(.ref b20)])) rfl (by rw [hml]; rfl) (Steps.refl _) (argsL := []) (rest := []) (lenOf pd___Z rfl) rfl (by show 2 * 0 + _ ≤ _; exact Nat.le_of_eq rfl) (hb hby at_123) (fun _ _ => ⟨rfl, e55, (by decide : 2 + 0 ≤ _), (by decide : 5 + 0 ≤ _)⟩)
      dsimp only [Pt.U, Pt.locs, Pt.cells, Pt.slots] at X63 l63 y63 z63 st63 hQ63
      subst l63 y63 z63
      obtain ⟨rfl, N63q, hh63⟩ := hQ63
      have N63 := Fr.app N55 N63q
      have pre64 : ∀ tgt, Steps p.tables e below (T63.setTop (mkF m 129 #[.val (.int p1), .val (.int p2), .val (.int p3), .val (.int p4), .val (.ref b2), .val (.int off), .val (.ref b20), .val (.int (bI (((¬ (off = (3 : Int32))) ∧ (((own_el off ((nar .byte p1.toInt8.toInt32)) ((nar .byte p2.toInt8.toInt32)) ((nar .byte p3.toInt8.toInt32))) &&& (255 : Int32)) = (own_ref (own_pick (off) (p1) (p2) (p3))))) ∧ (¬ (((own_el off ((nar .byte p1.toInt8.toInt32)) ((nar .byte p2.toInt8.toInt32)) ((nar .byte p3.toInt8.toInt32))) &&& (255 : Int32)) < (0 : Int32)) ∧ (¬ ((255 : Int32) < ((own_el off ((nar .byte p1.toInt8.toInt32)) ((nar .byte p2.toInt8.toInt32)) ((nar .byte p3.toInt8.toInt32))) &&& (255 : Int32)))))))), .val (.int ((own_el off ((nar .byte p1.toInt8.toInt32)) ((nar .byte p2.toInt8.toInt32)) ((nar .byte p3.toInt8.toInt32))) &&& (255 : Int32))), .unset] [(.int (2 : Int32)), (.int off), (.int (bI ((off + (1 : Int32)) = (3 : Int32))))])) tgt → Steps p.tables e below (s₁.setTop (entryFrame m #[(.int p1), (.int p2), (.int p3), (.int p4)] maxLocals)) tgt := by
        intro tgt kk
        refine pre62 tgt ?_
        refine st63.trans ?_
        show Steps p.tables e below (T63.setTop (mkF m 126 #[.val (.int p1), .val (.int p2), .val (.int p3), .val (.int p4), .val (.ref b2), .val (.int off), .val (.ref b20), .val (.int (bI (((¬ (off = (3 : Int32))) ∧ (((own_el off ((nar .byte p1.toInt8.toInt32)) ((nar .byte p2.toInt8.toInt32)) ((nar .byte p3.toInt8.toInt32))) &&& (255 : Int32)) = (own_ref (own_pick (off) (p1) (p2) (p3))))) ∧ (¬ (((own_el off ((nar .byte p1.toInt8.toInt32)) ((nar .byte p2.toInt8.toInt32)) ((nar .byte p3.toInt8.toInt32))) &&& (255 : Int32)) < (0 : Int32)) ∧ (¬ ((255 : Int32) < ((own_el off ((nar .byte p1.toInt8.toInt32)) ((nar .byte p2.toInt8.toInt32)) ((nar .byte p3.toInt8.toInt32))) &&& (255 : Int32)))))))), .val (.int ((own_el off ((nar .byte p1.toInt8.toInt32)) ((nar .byte p2.toInt8.toInt32)) ((nar .byte p3.toInt8.toInt32))) &&& (255 : Int32))), .unset] [(.int (bI ((off + (1 : Int32)) = (3 : Int32))))])) _
        refine XS.iload X63.here hx rfl (hb hby at_126) rfl ?_
        show Steps p.tables e below (T63.setTop (mkF m 128 #[.val (.int p1), .val (.int p2), .val (.int p3), .val (.int p4), .val (.ref b2), .val (.int off), .val (.ref b20), .val (.int (bI (((¬ (off = (3 : Int32))) ∧ (((own_el off ((nar .byte p1.toInt8.toInt32)) ((nar .byte p2.toInt8.toInt32)) ((nar .byte p3.toInt8.toInt32))) &&& (255 : Int32)) = (own_ref (own_pick (off) (p1) (p2) (p3))))) ∧ (¬ (((own_el off ((nar .byte p1.toInt8.toInt32)) ((nar .byte p2.toInt8.toInt32)) ((nar .byte p3.toInt8.toInt32))) &&& (255 : Int32)) < (0 : Int32)) ∧ (¬ ((255 : Int32) < ((own_el off ((nar .byte p1.toInt8.toInt32)) ((nar .byte p2.toInt8.toInt32)) ((nar .byte p3.toInt8.toInt32))) &&& (255 : Int32)))))))), .val (.int ((own_el off ((nar .byte p1.toInt8.toInt32)) ((nar .byte p2.toInt8.toInt32)) ((nar .byte p3.toInt8.toInt32))) &&& (255 : Int32))), .unset] [(.int off), (.int (bI ((off + (1 : Int32)) = (3 : Int32))))])) _
        refine XS.iconst X63.here hx rfl (hb hby at_128) ?_
        show Steps p.tables e below (T63.setTop (mkF m 129 #[.val (.int p1), .val (.int p2), .val (.int p3), .val (.int p4), .val (.ref b2), .val (.int off), .val (.ref b20), .val (.int (bI (((¬ (off = (3 : Int32))) ∧ (((own_el off ((nar .byte p1.toInt8.toInt32)) ((nar .byte p2.toInt8.toInt32)) ((nar .byte p3.toInt8.toInt32))) &&& (255 : Int32)) = (own_ref (own_pick (off) (p1) (p2) (p3))))) ∧ (¬ (((own_el off ((nar .byte p1.toInt8.toInt32)) ((nar .byte p2.toInt8.toInt32)) ((nar .byte p3.toInt8.toInt32))) &&& (255 : Int32)) < (0 : Int32)) ∧ (¬ ((255 : Int32) < ((own_el off ((nar .byte p1.toInt8.toInt32)) ((nar .byte p2.toInt8.toInt32)) ((nar .byte p3.toInt8.toInt32))) &&& (255 : Int32)))))))), .val (.int ((own_el off ((nar .byte p1.toInt8.toInt32)) ((nar .byte p2.toInt8.toInt32)) ((nar .byte p3.toInt8.toInt32))) &&& (255 : Int32))), .unset] [(.int (2 : Int32)), (.int off), (.int (bI ((off + (1 : Int32)) = (3 : Int32))))])) _
        exact kk
      obtain ⟨T66, lo66, X66, N66, e66, pre66⟩ : ∃ (T' : State) (lo : List Loc), Stand p l e room_1 s m #[(.int p1), (.int p2), (.int p3), (.int p4)] below meth c T' lo 2 5 ∧ Fr n0 lo ∧ T'.heap = T35.heap ∧ ∀ tgt, Steps p.tables e below (T'.setTop (mkF m 137 #[.val (.int p1), .val (.int p2), .val (.int p3), .val (.int p4), .val (.ref b2), .val (.int off), .val (.ref b20), .val (.int (bI (((¬ (off = (3 : Int32))) ∧ (((own_el off ((nar .byte p1.toInt8.toInt32)) ((nar .byte p2.toInt8.toInt32)) ((nar .byte p3.toInt8.toInt32))) &&& (255 : Int32)) = (own_ref (own_pick (off) (p1) (p2) (p3))))) ∧ (¬ (((own_el off ((nar .byte p1.toInt8.toInt32)) ((nar .byte p2.toInt8.toInt32)) ((nar .byte p3.toInt8.toInt32))) &&& (255 : Int32)) < (0 : Int32)) ∧ (¬ ((255 : Int32) < ((own_el off ((nar .byte p1.toInt8.toInt32)) ((nar .byte p2.toInt8.toInt32)) ((nar .byte p3.toInt8.toInt32))) &&& (255 : Int32)))))))), .val (.int ((own_el off ((nar .byte p1.toInt8.toInt32)) ((nar .byte p2.toInt8.toInt32)) ((nar .byte p3.toInt8.toInt32))) &&& (255 : Int32))), .unset] [(.int (bI (off = (2 : Int32)))), (.int (bI ((off + (1 : Int32)) = (3 : Int32))))])) tgt → Steps p.tables e below (s₁.setTop (entryFrame m #[(.int p1), (.int p2), (.int p3), (.int p4)] maxLocals)) tgt := by
        by_cases hc129_65 : off = (2 : Int32)
        · skip
          refine ⟨T63, _, X63, N63, hh63, fun tgt kk => ?_⟩
          have kq67 : ((.int (bI (off = (2 : Int32)))) : Value) = (.int (1 : Int32)) := (congrArg Value.int (bI_t hc129_65))
          rw [kq67] at kk
          refine pre64 tgt ?_
          refine XS.icmpNo X63.here hx rfl (hb hby at_129) rfl (XT.ii_ne_f hc129_65) ?_
          show Steps p.tables e below (T63.setTop (mkF m 132 #[.val (.int p1), .val (.int p2), .val (.int p3), .val (.int p4), .val (.ref b2), .val (.int off), .val (.ref b20), .val (.int (bI (((¬ (off = (3 : Int32))) ∧ (((own_el off ((nar .byte p1.toInt8.toInt32)) ((nar .byte p2.toInt8.toInt32)) ((nar .byte p3.toInt8.toInt32))) &&& (255 : Int32)) = (own_ref (own_pick (off) (p1) (p2) (p3))))) ∧ (¬ (((own_el off ((nar .byte p1.toInt8.toInt32)) ((nar .byte p2.toInt8.toInt32)) ((nar .byte p3.toInt8.toInt32))) &&& (255 : Int32)) < (0 : Int32)) ∧ (¬ ((255 : Int32) < ((own_el off ((nar .byte p1.toInt8.toInt32)) ((nar .byte p2.toInt8.toInt32)) ((nar .byte p3.toInt8.toInt32))) &&& (255 : Int32)))))))), .val (.int ((own_el off ((nar .byte p1.toInt8.toInt32)) ((nar .byte p2.toInt8.toInt32)) ((nar .byte p3.toInt8.toInt32))) &&& (255 : Int32))), .unset] [(.int (bI ((off + (1 : Int32)) = (3 : Int32))))])) _
          refine XS.iconst X63.here hx rfl (hb hby at_132) ?_
          show Steps p.tables e below (T63.setTop (mkF m 133 #[.val (.int p1), .val (.int p2), .val (.int p3), .val (.int p4), .val (.ref b2), .val (.int off), .val (.ref b20), .val (.int (bI (((¬ (off = (3 : Int32))) ∧ (((own_el off ((nar .byte p1.toInt8.toInt32)) ((nar .byte p2.toInt8.toInt32)) ((nar .byte p3.toInt8.toInt32))) &&& (255 : Int32)) = (own_ref (own_pick (off) (p1) (p2) (p3))))) ∧ (¬ (((own_el off ((nar .byte p1.toInt8.toInt32)) ((nar .byte p2.toInt8.toInt32)) ((nar .byte p3.toInt8.toInt32))) &&& (255 : Int32)) < (0 : Int32)) ∧ (¬ ((255 : Int32) < ((own_el off ((nar .byte p1.toInt8.toInt32)) ((nar .byte p2.toInt8.toInt32)) ((nar .byte p3.toInt8.toInt32))) &&& (255 : Int32)))))))), .val (.int ((own_el off ((nar .byte p1.toInt8.toInt32)) ((nar .byte p2.toInt8.toInt32)) ((nar .byte p3.toInt8.toInt32))) &&& (255 : Int32))), .unset] [(.int (1 : Int32)), (.int (bI ((off + (1 : Int32)) = (3 : Int32))))])) _
          refine XS.goto X63.here hx rfl (pc0 := 133) (pc' := 137) rfl (hb hby at_133) (by decide) (by decide) ?_
          show Steps p.tables e below (T63.setTop (mkF m 137 #[.val (.int p1), .val (.int p2), .val (.int p3), .val (.int p4), .val (.ref b2), .val (.int off), .val (.ref b20), .val (.int (bI (((¬ (off = (3 : Int32))) ∧ (((own_el off ((nar .byte p1.toInt8.toInt32)) ((nar .byte p2.toInt8.toInt32)) ((nar .byte p3.toInt8.toInt32))) &&& (255 : Int32)) = (own_ref (own_pick (off) (p1) (p2) (p3))))) ∧ (¬ (((own_el off ((nar .byte p1.toInt8.toInt32)) ((nar .byte p2.toInt8.toInt32)) ((nar .byte p3.toInt8.toInt32))) &&& (255 : Int32)) < (0 : Int32)) ∧ (¬ ((255 : Int32) < ((own_el off ((nar .byte p1.toInt8.toInt32)) ((nar .byte p2.toInt8.toInt32)) ((nar .byte p3.toInt8.toInt32))) &&& (255 : Int32)))))))), .val (.int ((own_el off ((nar .byte p1.toInt8.toInt32)) ((nar .byte p2.toInt8.toInt32)) ((nar .byte p3.toInt8.toInt32))) &&& (255 : Int32))), .unset] [(.int (1 : Int32)), (.int (bI ((off + (1 : Int32)) = (3 : Int32))))])) _
          exact kk
        · skip
          refine ⟨T63, _, X63, N63, hh63, fun tgt kk => ?_⟩
          have kq68 : ((.int (bI (off = (2 : Int32)))) : Value) = (.int (0 : Int32)) := (congrArg Value.int (bI_f hc129_65))
          rw [kq68] at kk
          refine pre64 tgt ?_
          refine XS.icmpYes X63.here hx rfl (pc0 := 129) (pc' := 136) rfl (hb hby at_129) rfl (XT.ii_ne_t hc129_65) (by decide) (by decide) ?_
          show Steps p.tables e below (T63.setTop (mkF m 136 #[.val (.int p1), .val (.int p2), .val (.int p3), .val (.int p4), .val (.ref b2), .val (.int off), .val (.ref b20), .val (.int (bI (((¬ (off = (3 : Int32))) ∧ (((own_el off ((nar .byte p1.toInt8.toInt32)) ((nar .byte p2.toInt8.toInt32)) ((nar .byte p3.toInt8.toInt32))) &&& (255 : Int32)) = (own_ref (own_pick (off) (p1) (p2) (p3))))) ∧ (¬ (((own_el off ((nar .byte p1.toInt8.toInt32)) ((nar .byte p2.toInt8.toInt32)) ((nar .byte p3.toInt8.toInt32))) &&& (255 : Int32)) < (0 : Int32)) ∧ (¬ ((255 : Int32) < ((own_el off ((nar .byte p1.toInt8.toInt32)) ((nar .byte p2.toInt8.toInt32)) ((nar .byte p3.toInt8.toInt32))) &&& (255 : Int32)))))))), .val (.int ((own_el off ((nar .byte p1.toInt8.toInt32)) ((nar .byte p2.toInt8.toInt32)) ((nar .byte p3.toInt8.toInt32))) &&& (255 : Int32))), .unset] [(.int (bI ((off + (1 : Int32)) = (3 : Int32))))])) _
          refine XS.iconst X63.here hx rfl (hb hby at_136) ?_
          show Steps p.tables e below (T63.setTop (mkF m 137 #[.val (.int p1), .val (.int p2), .val (.int p3), .val (.int p4), .val (.ref b2), .val (.int off), .val (.ref b20), .val (.int (bI (((¬ (off = (3 : Int32))) ∧ (((own_el off ((nar .byte p1.toInt8.toInt32)) ((nar .byte p2.toInt8.toInt32)) ((nar .byte p3.toInt8.toInt32))) &&& (255 : Int32)) = (own_ref (own_pick (off) (p1) (p2) (p3))))) ∧ (¬ (((own_el off ((nar .byte p1.toInt8.toInt32)) ((nar .byte p2.toInt8.toInt32)) ((nar .byte p3.toInt8.toInt32))) &&& (255 : Int32)) < (0 : Int32)) ∧ (¬ ((255 : Int32) < ((own_el off ((nar .byte p1.toInt8.toInt32)) ((nar .byte p2.toInt8.toInt32)) ((nar .byte p3.toInt8.toInt32))) &&& (255 : Int32)))))))), .val (.int ((own_el off ((nar .byte p1.toInt8.toInt32)) ((nar .byte p2.toInt8.toInt32)) ((nar .byte p3.toInt8.toInt32))) &&& (255 : Int32))), .unset] [(.int (0 : Int32)), (.int (bI ((off + (1 : Int32)) = (3 : Int32))))])) _
          exact kk
      by_cases hc137_69 : ((off + (1 : Int32)) = (3 : Int32)) ↔ (off = (2 : Int32))
      · skip
        refine ⟨T66, _, X66, N66, e66, fun tgt kk => ?_⟩
        have kq71 : ((.int (bI ((((¬ (off = (3 : Int32))) ∧ (((own_el off ((nar .byte p1.toInt8.toInt32)) ((nar .byte p2.toInt8.toInt32)) ((nar .byte p3.toInt8.toInt32))) &&& (255 : Int32)) = (own_ref (own_pick (off) (p1) (p2) (p3))))) ∧ (¬ (((own_el off ((nar .byte p1.toInt8.toInt32)) ((nar .byte p2.toInt8.toInt32)) ((nar .byte p3.toInt8.toInt32))) &&& (255 : Int32)) < (0 : Int32)) ∧ (¬ ((255 : Int32) < ((own_el off ((nar .byte p1.toInt8.toInt32)) ((nar .byte p2.toInt8.toInt32)) ((nar .byte p3.toInt8.toInt32))) &&& (255 : Int32)))))) ∧ (((off + (1 : Int32)) = (3 : Int32)) ↔ (off = (2 : Int32)))))) : Value) = (.int (1 : Int32)) := ((congrArg Value.int (bI_iff (and_iff_right hc118_61))).trans (congrArg Value.int (bI_t hc137_69)))
        rw [kq71] at kk
        refine pre66 tgt ?_
        refine XS.icmpNo X66.here hx rfl (hb hby at_137) rfl (XT.ii_ne_f (bI_eq.mpr hc137_69)) ?_
        show Steps p.tables e below (T66.setTop (mkF m 140 #[.val (.int p1), .val (.int p2), .val (.int p3), .val (.int p4), .val (.ref b2), .val (.int off), .val (.ref b20), .val (.int (bI (((¬ (off = (3 : Int32))) ∧ (((own_el off ((nar .byte p1.toInt8.toInt32)) ((nar .byte p2.toInt8.toInt32)) ((nar .byte p3.toInt8.toInt32))) &&& (255 : Int32)) = (own_ref (own_pick (off) (p1) (p2) (p3))))) ∧ (¬ (((own_el off ((nar .byte p1.toInt8.toInt32)) ((nar .byte p2.toInt8.toInt32)) ((nar .byte p3.toInt8.toInt32))) &&& (255 : Int32)) < (0 : Int32)) ∧ (¬ ((255 : Int32) < ((own_el off ((nar .byte p1.toInt8.toInt32)) ((nar .byte p2.toInt8.toInt32)) ((nar .byte p3.toInt8.toInt32))) &&& (255 : Int32)))))))), .val (.int ((own_el off ((nar .byte p1.toInt8.toInt32)) ((nar .byte p2.toInt8.toInt32)) ((nar .byte p3.toInt8.toInt32))) &&& (255 : Int32))), .unset] [])) _
        refine XS.iconst X66.here hx rfl (hb hby at_140) ?_
        show Steps p.tables e below (T66.setTop (mkF m 141 #[.val (.int p1), .val (.int p2), .val (.int p3), .val (.int p4), .val (.ref b2), .val (.int off), .val (.ref b20), .val (.int (bI (((¬ (off = (3 : Int32))) ∧ (((own_el off ((nar .byte p1.toInt8.toInt32)) ((nar .byte p2.toInt8.toInt32)) ((nar .byte p3.toInt8.toInt32))) &&& (255 : Int32)) = (own_ref (own_pick (off) (p1) (p2) (p3))))) ∧ (¬ (((own_el off ((nar .byte p1.toInt8.toInt32)) ((nar .byte p2.toInt8.toInt32)) ((nar .byte p3.toInt8.toInt32))) &&& (255 : Int32)) < (0 : Int32)) ∧ (¬ ((255 : Int32) < ((own_el off ((nar .byte p1.toInt8.toInt32)) ((nar .byte p2.toInt8.toInt32)) ((nar .byte p3.toInt8.toInt32))) &&& (255 : Int32)))))))), .val (.int ((own_el off ((nar .byte p1.toInt8.toInt32)) ((nar .byte p2.toInt8.toInt32)) ((nar .byte p3.toInt8.toInt32))) &&& (255 : Int32))), .unset] [(.int (1 : Int32))])) _
        refine XS.goto X66.here hx rfl (pc0 := 141) (pc' := 145) rfl (hb hby at_141) (by decide) (by decide) ?_
        show Steps p.tables e below (T66.setTop (mkF m 145 #[.val (.int p1), .val (.int p2), .val (.int p3), .val (.int p4), .val (.ref b2), .val (.int off), .val (.ref b20), .val (.int (bI (((¬ (off = (3 : Int32))) ∧ (((own_el off ((nar .byte p1.toInt8.toInt32)) ((nar .byte p2.toInt8.toInt32)) ((nar .byte p3.toInt8.toInt32))) &&& (255 : Int32)) = (own_ref (own_pick (off) (p1) (p2) (p3))))) ∧ (¬ (((own_el off ((nar .byte p1.toInt8.toInt32)) ((nar .byte p2.toInt8.toInt32)) ((nar .byte p3.toInt8.toInt32))) &&& (255 : Int32)) < (0 : Int32)) ∧ (¬ ((255 : Int32) < ((own_el off ((nar .byte p1.toInt8.toInt32)) ((nar .byte p2.toInt8.toInt32)) ((nar .byte p3.toInt8.toInt32))) &&& (255 : Int32)))))))), .val (.int ((own_el off ((nar .byte p1.toInt8.toInt32)) ((nar .byte p2.toInt8.toInt32)) ((nar .byte p3.toInt8.toInt32))) &&& (255 : Int32))), .unset] [(.int (1 : Int32))])) _
        exact kk
      · skip
        refine ⟨T66, _, X66, N66, e66, fun tgt kk => ?_⟩
        have kq72 : ((.int (bI ((((¬ (off = (3 : Int32))) ∧ (((own_el off ((nar .byte p1.toInt8.toInt32)) ((nar .byte p2.toInt8.toInt32)) ((nar .byte p3.toInt8.toInt32))) &&& (255 : Int32)) = (own_ref (own_pick (off) (p1) (p2) (p3))))) ∧ (¬ (((own_el off ((nar .byte p1.toInt8.toInt32)) ((nar .byte p2.toInt8.toInt32)) ((nar .byte p3.toInt8.toInt32))) &&& (255 : Int32)) < (0 : Int32)) ∧ (¬ ((255 : Int32) < ((own_el off ((nar .byte p1.toInt8.toInt32)) ((nar .byte p2.toInt8.toInt32)) ((nar .byte p3.toInt8.toInt32))) &&& (255 : Int32)))))) ∧ (((off + (1 : Int32)) = (3 : Int32)) ↔ (off = (2 : Int32)))))) : Value) = (.int (0 : Int32)) := ((congrArg Value.int (bI_iff (and_iff_right hc118_61))).trans (congrArg Value.int (bI_f hc137_69)))
        rw [kq72] at kk
        refine pre66 tgt ?_
        refine XS.icmpYes X66.here hx rfl (pc0 := 137) (pc' := 144) rfl (hb hby at_137) rfl (XT.ii_ne_t (fun q => hc137_69 (bI_eq.mp q))) (by decide) (by decide) ?_
        show Steps p.tables e below (T66.setTop (mkF m 144 #[.val (.int p1), .val (.int p2), .val (.int p3), .val (.int p4), .val (.ref b2), .val (.int off), .val (.ref b20), .val (.int (bI (((¬ (off = (3 : Int32))) ∧ (((own_el off ((nar .byte p1.toInt8.toInt32)) ((nar .byte p2.toInt8.toInt32)) ((nar .byte p3.toInt8.toInt32))) &&& (255 : Int32)) = (own_ref (own_pick (off) (p1) (p2) (p3))))) ∧ (¬ (((own_el off ((nar .byte p1.toInt8.toInt32)) ((nar .byte p2.toInt8.toInt32)) ((nar .byte p3.toInt8.toInt32))) &&& (255 : Int32)) < (0 : Int32)) ∧ (¬ ((255 : Int32) < ((own_el off ((nar .byte p1.toInt8.toInt32)) ((nar .byte p2.toInt8.toInt32)) ((nar .byte p3.toInt8.toInt32))) &&& (255 : Int32)))))))), .val (.int ((own_el off ((nar .byte p1.toInt8.toInt32)) ((nar .byte p2.toInt8.toInt32)) ((nar .byte p3.toInt8.toInt32))) &&& (255 : Int32))), .unset] [])) _
        refine XS.iconst X66.here hx rfl (hb hby at_144) ?_
        show Steps p.tables e below (T66.setTop (mkF m 145 #[.val (.int p1), .val (.int p2), .val (.int p3), .val (.int p4), .val (.ref b2), .val (.int off), .val (.ref b20), .val (.int (bI (((¬ (off = (3 : Int32))) ∧ (((own_el off ((nar .byte p1.toInt8.toInt32)) ((nar .byte p2.toInt8.toInt32)) ((nar .byte p3.toInt8.toInt32))) &&& (255 : Int32)) = (own_ref (own_pick (off) (p1) (p2) (p3))))) ∧ (¬ (((own_el off ((nar .byte p1.toInt8.toInt32)) ((nar .byte p2.toInt8.toInt32)) ((nar .byte p3.toInt8.toInt32))) &&& (255 : Int32)) < (0 : Int32)) ∧ (¬ ((255 : Int32) < ((own_el off ((nar .byte p1.toInt8.toInt32)) ((nar .byte p2.toInt8.toInt32)) ((nar .byte p3.toInt8.toInt32))) &&& (255 : Int32)))))))), .val (.int ((own_el off ((nar .byte p1.toInt8.toInt32)) ((nar .byte p2.toInt8.toInt32)) ((nar .byte p3.toInt8.toInt32))) &&& (255 : Int32))), .unset] [(.int (0 : Int32))])) _
        exact kk
    · skip
      refine ⟨T55, _, X55, N55, e55, fun tgt kk => ?_⟩
      have kq73 : ((.int (bI ((((¬ (off = (3 : Int32))) ∧ (((own_el off ((nar .byte p1.toInt8.toInt32)) ((nar .byte p2.toInt8.toInt32)) ((nar .byte p3.toInt8.toInt32))) &&& (255 : Int32)) = (own_ref (own_pick (off) (p1) (p2) (p3))))) ∧ (¬ (((own_el off ((nar .byte p1.toInt8.toInt32)) ((nar .byte p2.toInt8.toInt32)) ((nar .byte p3.toInt8.toInt32))) &&& (255 : Int32)) < (0 : Int32)) ∧ (¬ ((255 : Int32) < ((own_el off ((nar .byte p1.toInt8.toInt32)) ((nar .byte p2.toInt8.toInt32)) ((nar .byte p3.toInt8.toInt32))) &&& (255 : Int32)))))) ∧ (((off + (1 : Int32)) = (3 : Int32)) ↔ (off = (2 : Int32)))))) : Value) = (.int (0 : Int32)) := (congrArg Value.int (bI_f (fun q => hc118_61 q.1)))
      rw [kq73] at kk
      refine pre60 tgt ?_
      refine XS.ifYes X55.here hx rfl (pc0 := 118) (pc' := 144) rfl (hb hby at_118) rfl (bB_eq_t hc118_61) (by decide) (by decide) ?_
      show Steps p.tables e below (T55.setTop (mkF m 144 #[.val (.int p1), .val (.int p2), .val (.int p3), .val (.int p4), .val (.ref b2), .val (.int off), .val (.ref b20), .val (.int (bI (((¬ (off = (3 : Int32))) ∧ (((own_el off ((nar .byte p1.toInt8.toInt32)) ((nar .byte p2.toInt8.toInt32)) ((nar .byte p3.toInt8.toInt32))) &&& (255 : Int32)) = (own_ref (own_pick (off) (p1) (p2) (p3))))) ∧ (¬ (((own_el off ((nar .byte p1.toInt8.toInt32)) ((nar .byte p2.toInt8.toInt32)) ((nar .byte p3.toInt8.toInt32))) &&& (255 : Int32)) < (0 : Int32)) ∧ (¬ ((255 : Int32) < ((own_el off ((nar .byte p1.toInt8.toInt32)) ((nar .byte p2.toInt8.toInt32)) ((nar .byte p3.toInt8.toInt32))) &&& (255 : Int32)))))))), .val (.int ((own_el off ((nar .byte p1.toInt8.toInt32)) ((nar .byte p2.toInt8.toInt32)) ((nar .byte p3.toInt8.toInt32))) &&& (255 : Int32))), .unset] [])) _
      refine XS.iconst X55.here hx rfl (hb hby at_144) ?_
      show Steps p.tables e below (T55.setTop (mkF m 145 #[.val (.int p1), .val (.int p2), .val (.int p3), .val (.int p4), .val (.ref b2), .val (.int off), .val (.ref b20), .val (.int (bI (((¬ (off = (3 : Int32))) ∧ (((own_el off ((nar .byte p1.toInt8.toInt32)) ((nar .byte p2.toInt8.toInt32)) ((nar .byte p3.toInt8.toInt32))) &&& (255 : Int32)) = (own_ref (own_pick (off) (p1) (p2) (p3))))) ∧ (¬ (((own_el off ((nar .byte p1.toInt8.toInt32)) ((nar .byte p2.toInt8.toInt32)) ((nar .byte p3.toInt8.toInt32))) &&& (255 : Int32)) < (0 : Int32)) ∧ (¬ ((255 : Int32) < ((own_el off ((nar .byte p1.toInt8.toInt32)) ((nar .byte p2.toInt8.toInt32)) ((nar .byte p3.toInt8.toInt32))) &&& (255 : Int32)))))))), .val (.int ((own_el off ((nar .byte p1.toInt8.toInt32)) ((nar .byte p2.toInt8.toInt32)) ((nar .byte p3.toInt8.toInt32))) &&& (255 : Int32))), .unset] [(.int (0 : Int32))])) _
      exact kk
  have pre74 : ∀ tgt, Steps p.tables e below (T70.setTop (mkF m 150 #[.val (.int p1), .val (.int p2), .val (.int p3), .val (.int p4), .val (.ref b2), .val (.int off), .val (.ref b20), .val (.int (bI ((((¬ (off = (3 : Int32))) ∧ (((own_el off ((nar .byte p1.toInt8.toInt32)) ((nar .byte p2.toInt8.toInt32)) ((nar .byte p3.toInt8.toInt32))) &&& (255 : Int32)) = (own_ref (own_pick (off) (p1) (p2) (p3))))) ∧ (¬ (((own_el off ((nar .byte p1.toInt8.toInt32)) ((nar .byte p2.toInt8.toInt32)) ((nar .byte p3.toInt8.toInt32))) &&& (255 : Int32)) < (0 : Int32)) ∧ (¬ ((255 : Int32) < ((own_el off ((nar .byte p1.toInt8.toInt32)) ((nar .byte p2.toInt8.toInt32)) ((nar .byte p3.toInt8.toInt32))) &&& (255 : Int32)))))) ∧ (((off + (1 : Int32)) = (3 : Int32)) ↔ (off = (2 : Int32)))))), .val (.int ((own_el off ((nar .byte p1.toInt8.toInt32)) ((nar .byte p2.toInt8.toInt32)) ((nar .byte p3.toInt8.toInt32))) &&& (255 : Int32))), .unset] [(.int (2 : Int32)), (.int off)])) tgt → Steps p.tables e below (s₁.setTop (entryFrame m #[(.int p1), (.int p2), (.int p3), (.int p4)] maxLocals)) tgt := by
    intro tgt kk
    refine pre70 tgt ?_
    refine XS.istore X70.here hx rfl (hb hby at_145) rfl (l' := #[.val (.int p1), .val (.int p2), .val (.int p3), .val (.int p4), .val (.ref b2), .val (.int off), .val (.ref b20), .val (.int (bI ((((¬ (off = (3 : Int32))) ∧ (((own_el off ((nar .byte p1.toInt8.toInt32)) ((nar .byte p2.toInt8.toInt32)) ((nar .byte p3.toInt8.toInt32))) &&& (255 : Int32)) = (own_ref (own_pick (off) (p1) (p2) (p3))))) ∧ (¬ (((own_el off ((nar .byte p1.toInt8.toInt32)) ((nar .byte p2.toInt8.toInt32)) ((nar .byte p3.toInt8.toInt32))) &&& (255 : Int32)) < (0 : Int32)) ∧ (¬ ((255 : Int32) < ((own_el off ((nar .byte p1.toInt8.toInt32)) ((nar .byte p2.toInt8.toInt32)) ((nar .byte p3.toInt8.toInt32))) &&& (255 : Int32)))))) ∧ (((off + (1 : Int32)) = (3 : Int32)) ↔ (off = (2 : Int32)))))), .val (.int ((own_el off ((nar .byte p1.toInt8.toInt32)) ((nar .byte p2.toInt8.toInt32)) ((nar .byte p3.toInt8.toInt32))) &&& (255 : Int32))), .unset]) rfl ?_
    show Steps p.tables e below (T70.setTop (mkF m 147 #[.val (.int p1), .val (.int p2), .val (.int p3), .val (.int p4), .val (.ref b2), .val (.int off), .val (.ref b20), .val (.int (bI ((((¬ (off = (3 : Int32))) ∧ (((own_el off ((nar .byte p1.toInt8.toInt32)) ((nar .byte p2.toInt8.toInt32)) ((nar .byte p3.toInt8.toInt32))) &&& (255 : Int32)) = (own_ref (own_pick (off) (p1) (p2) (p3))))) ∧ (¬ (((own_el off ((nar .byte p1.toInt8.toInt32)) ((nar .byte p2.toInt8.toInt32)) ((nar .byte p3.toInt8.toInt32))) &&& (255 : Int32)) < (0 : Int32)) ∧ (¬ ((255 : Int32) < ((own_el off ((nar .byte p1.toInt8.toInt32)) ((nar .byte p2.toInt8.toInt32)) ((nar .byte p3.toInt8.toInt32))) &&& (255 : Int32)))))) ∧ (((off + (1 : Int32)) = (3 : Int32)) ↔ (off = (2 : Int32)))))), .val (.int ((own_el off ((nar .byte p1.toInt8.toInt32)) ((nar .byte p2.toInt8.toInt32)) ((nar .byte p3.toInt8.toInt32))) &&& (255 : Int32))), .unset] [])) _
    refine XS.iload X70.here hx rfl (hb hby at_147) rfl ?_
    show Steps p.tables e below (T70.setTop (mkF m 149 #[.val (.int p1), .val (.int p2), .val (.int p3), .val (.int p4), .val (.ref b2), .val (.int off), .val (.ref b20), .val (.int (bI ((((¬ (off = (3 : Int32))) ∧ (((own_el off ((nar .byte p1.toInt8.toInt32)) ((nar .byte p2.toInt8.toInt32)) ((nar .byte p3.toInt8.toInt32))) &&& (255 : Int32)) = (own_ref (own_pick (off) (p1) (p2) (p3))))) ∧ (¬ (((own_el off ((nar .byte p1.toInt8.toInt32)) ((nar .byte p2.toInt8.toInt32)) ((nar .byte p3.toInt8.toInt32))) &&& (255 : Int32)) < (0 : Int32)) ∧ (¬ ((255 : Int32) < ((own_el off ((nar .byte p1.toInt8.toInt32)) ((nar .byte p2.toInt8.toInt32)) ((nar .byte p3.toInt8.toInt32))) &&& (255 : Int32)))))) ∧ (((off + (1 : Int32)) = (3 : Int32)) ↔ (off = (2 : Int32)))))), .val (.int ((own_el off ((nar .byte p1.toInt8.toInt32)) ((nar .byte p2.toInt8.toInt32)) ((nar .byte p3.toInt8.toInt32))) &&& (255 : Int32))), .unset] [(.int off)])) _
    refine XS.iconst X70.here hx rfl (hb hby at_149) ?_
    show Steps p.tables e below (T70.setTop (mkF m 150 #[.val (.int p1), .val (.int p2), .val (.int p3), .val (.int p4), .val (.ref b2), .val (.int off), .val (.ref b20), .val (.int (bI ((((¬ (off = (3 : Int32))) ∧ (((own_el off ((nar .byte p1.toInt8.toInt32)) ((nar .byte p2.toInt8.toInt32)) ((nar .byte p3.toInt8.toInt32))) &&& (255 : Int32)) = (own_ref (own_pick (off) (p1) (p2) (p3))))) ∧ (¬ (((own_el off ((nar .byte p1.toInt8.toInt32)) ((nar .byte p2.toInt8.toInt32)) ((nar .byte p3.toInt8.toInt32))) &&& (255 : Int32)) < (0 : Int32)) ∧ (¬ ((255 : Int32) < ((own_el off ((nar .byte p1.toInt8.toInt32)) ((nar .byte p2.toInt8.toInt32)) ((nar .byte p3.toInt8.toInt32))) &&& (255 : Int32)))))) ∧ (((off + (1 : Int32)) = (3 : Int32)) ↔ (off = (2 : Int32)))))), .val (.int ((own_el off ((nar .byte p1.toInt8.toInt32)) ((nar .byte p2.toInt8.toInt32)) ((nar .byte p3.toInt8.toInt32))) &&& (255 : Int32))), .unset] [(.int (2 : Int32)), (.int off)])) _
    exact kk
  by_cases hc150_75 : off < (2 : Int32)
  · skip
    have pre76 : ∀ tgt, Steps p.tables e below (T70.setTop (mkF m 155 #[.val (.int p1), .val (.int p2), .val (.int p3), .val (.int p4), .val (.ref b2), .val (.int off), .val (.ref b20), .val (.int (bI ((((¬ (off = (3 : Int32))) ∧ (((own_el off ((nar .byte p1.toInt8.toInt32)) ((nar .byte p2.toInt8.toInt32)) ((nar .byte p3.toInt8.toInt32))) &&& (255 : Int32)) = (own_ref (own_pick (off) (p1) (p2) (p3))))) ∧ (¬ (((own_el off ((nar .byte p1.toInt8.toInt32)) ((nar .byte p2.toInt8.toInt32)) ((nar .byte p3.toInt8.toInt32))) &&& (255 : Int32)) < (0 : Int32)) ∧ (¬ ((255 : Int32) < ((own_el off ((nar .byte p1.toInt8.toInt32)) ((nar .byte p2.toInt8.toInt32)) ((nar .byte p3.toInt8.toInt32))) &&& (255 : Int32)))))) ∧ (((off + (1 : Int32)) = (3 : Int32)) ↔ (off = (2 : Int32)))))), .val (.int ((own_el off ((nar .byte p1.toInt8.toInt32)) ((nar .byte p2.toInt8.toInt32)) ((nar .byte p3.toInt8.toInt32))) &&& (255 : Int32))), .unset] [(.ref b20)])) tgt → Steps p.tables e below (s₁.setTop (entryFrame m #[(.int p1), (.int p2), (.int p3), (.int p4)] maxLocals)) tgt := by
      intro tgt kk
      refine pre74 tgt ?_
      refine XS.icmpNo X70.here hx rfl (hb hby at_150) rfl (XT.ii_ge_f hc150_75) ?_
      show Steps p.tables e below (T70.setTop (mkF m 153 #[.val (.int p1), .val (.int p2), .val (.int p3), .val (.int p4), .val (.ref b2), .val (.int off), .val (.ref b20), .val (.int (bI ((((¬ (off = (3 : Int32))) ∧ (((own_el off ((nar .byte p1.toInt8.toInt32)) ((nar .byte p2.toInt8.toInt32)) ((nar .byte p3.toInt8.toInt32))) &&& (255 : Int32)) = (own_ref (own_pick (off) (p1) (p2) (p3))))) ∧ (¬ (((own_el off ((nar .byte p1.toInt8.toInt32)) ((nar .byte p2.toInt8.toInt32)) ((nar .byte p3.toInt8.toInt32))) &&& (255 : Int32)) < (0 : Int32)) ∧ (¬ ((255 : Int32) < ((own_el off ((nar .byte p1.toInt8.toInt32)) ((nar .byte p2.toInt8.toInt32)) ((nar .byte p3.toInt8.toInt32))) &&& (255 : Int32)))))) ∧ (((off + (1 : Int32)) = (3 : Int32)) ↔ (off = (2 : Int32)))))), .val (.int ((own_el off ((nar .byte p1.toInt8.toInt32)) ((nar .byte p2.toInt8.toInt32)) ((nar .byte p3.toInt8.toInt32))) &&& (255 : Int32))), .unset] [])) _
      refine XS.aload X70.here hx rfl (hb hby at_153) rfl rfl ?_
      show Steps p.tables e below (T70.setTop (mkF m 155 #[.val (.int p1), .val (.int p2), .val (.int p3), .val (.int p4), .val (.ref b2), .val (.int off), .val (.ref b20), .val (.int (bI ((((¬ (off = (3 : Int32))) ∧ (((own_el off ((nar .byte p1.toInt8.toInt32)) ((nar .byte p2.toInt8.toInt32)) ((nar .byte p3.toInt8.toInt32))) &&& (255 : Int32)) = (own_ref (own_pick (off) (p1) (p2) (p3))))) ∧ (¬ (((own_el off ((nar .byte p1.toInt8.toInt32)) ((nar .byte p2.toInt8.toInt32)) ((nar .byte p3.toInt8.toInt32))) &&& (255 : Int32)) < (0 : Int32)) ∧ (¬ ((255 : Int32) < ((own_el off ((nar .byte p1.toInt8.toInt32)) ((nar .byte p2.toInt8.toInt32)) ((nar .byte p3.toInt8.toInt32))) &&& (255 : Int32)))))) ∧ (((off + (1 : Int32)) = (3 : Int32)) ↔ (off = (2 : Int32)))))), .val (.int ((own_el off ((nar .byte p1.toInt8.toInt32)) ((nar .byte p2.toInt8.toInt32)) ((nar .byte p3.toInt8.toInt32))) &&& (255 : Int32))), .unset] [(.ref b20)])) _
      exact kk
    obtain ⟨cq77, kq77, q77a, q77b, q77c⟩ := isOf hZ e70 E_b20
    obtain ⟨_, _, ⟨T77, L77, k77, n77⟩, -, X77, ⟨Lc77, hQ77, l77, y77, z77⟩, st77⟩ := X70.virtualBack hx (y := (⟨"com/example/fir/fir/core/Decoder", "readByte", "()I"⟩ : MethodName)) (z := (⟨"com/example/fir/fir/core/Decoder", "readByte", "()I"⟩ : MethodName)) hown (mvT hZ (hw _ (List.mem_of_getElem? (i := 20) rfl))) (mvT hZ (hw _ (List.mem_of_getElem? (i := 21) rfl))) (notFace_of_selects (args := #[]) (mvT hZ (hw _ (List.mem_of_getElem? (i := 23) rfl)))) (mvT hZ (hw _ (List.mem_of_getElem? (i := 23) rfl))) (mvT hZ (hw _ (List.mem_of_getElem? (i := 22) rfl))) (by decide) (backOf (W := 0) (rmR l Z a0 hw [] b20 b2 k2 ((off + (1 : Int32))) ((nar .byte p1.toInt8.toInt32)) ((nar .byte p2.toInt8.toInt32)) ((nar .byte p3.toInt8.toInt32)) T35.heap n0 Zs36 E_b20 F_bytes_b20 F_offset_b20 V_b2 gn22 ne21 (own_next hoff hc150_75)) hZ (hw _ (List.mem_of_getElem? (i := 24) rfl)) (hw _ (List.mem_of_getElem? (i := 4) rfl)) (by decide) (by decide)) q77a q77c (g := (mkF m 155 #[.val (.int p1), .val (.int p2), .val (.int p3), .val (.int p4), .val (.ref b2), .val (.int off), .val (.ref b20), .val (.int (bI ((((¬ (off = (3 : Int32))) ∧ (((own_el off ((nar .byte p1.toInt8.toInt32)) ((nar .byte p2.toInt8.toInt32)) ((nar .byte p3.toInt8.toInt32))) &&& (255 : Int32)) = (own_ref (own_pick (off) (p1) (p2) (p3))))) ∧ (¬ (((own_el off ((nar .byte p1.toInt8.toInt32)) ((nar .byte p2.toInt8.toInt32)) ((nar .byte p3.toInt8.toInt32))) &&& (255 : Int32)) < (0 : Int32)) ∧ (¬ ((255 : Int32) < ((own_el off ((nar .byte p1.toInt8.toInt32)) ((nar .byte p2.toInt8.toInt32)) ((nar .byte p3.toInt8.toInt32))) &&& (255 : Int32)))))) ∧ (((off + (1 : Int32)) = (3 : Int32)) ↔ (off = (2 : Int32)))))), .val (.int ((own_el off ((nar .byte p1.toInt8.toInt32)) ((nar .byte p2.toInt8.toInt32)) ((nar .byte p3.toInt8.toInt32))) &&& (255 : Int32))), .unset] [(.ref b20)])) rfl (by rw [hml]; rfl) (Steps.refl _) (argsL := []) (rest := []) (lenOf pd___I rfl) rfl (by show 2 * 0 + _ ≤ _; exact Nat.le_of_eq rfl) (hb hby at_155) (fun _ _ => ⟨rfl, e70, (by decide : 2 + 0 ≤ _), (by decide : 5 + 0 ≤ _)⟩)
    dsimp only [Pt.U, Pt.locs, Pt.cells, Pt.slots] at X77 l77 y77 z77 st77 hQ77
    subst l77 y77 z77
    obtain ⟨rfl, N77q, K77, Fq77_0, Fq77_1⟩ := hQ77
    have N77 := Fr.app N70 N77q
    have V_b2 : Arv Z T77.heap b2 k2 .byte (3 : Int32) [(.int (nar .byte p1.toInt8.toInt32)), (.int (nar .byte p2.toInt8.toInt32)), (.int (nar .byte p3.toInt8.toInt32))] (.int (0 : Int32)) := V_b2.keep K77 (ninS ne21 nin0)
    have E_b20 : Exa Z T77.heap b20 "com/example/fir/fir/core/Decoder" := E_b20.keep K77
    have Zs78 : n0 ≤ T77.heap.size := Nat.le_trans Zs36 K77.1
    have KC78 : Keep h0 T77.heap [] := KC36.trans K77 (allS (Or.inr sz22) all0)
    have F_bytes_b20 := Fq77_0
    have F_offset_b20 := Fq77_1
    have pre79 : ∀ tgt, Steps p.tables e below (T77.setTop (mkF m 162 #[.val (.int p1), .val (.int p2), .val (.int p3), .val (.int p4), .val (.ref b2), .val (.int off), .val (.ref b20), .val (.int (bI ((((¬ (off = (3 : Int32))) ∧ (((own_el off ((nar .byte p1.toInt8.toInt32)) ((nar .byte p2.toInt8.toInt32)) ((nar .byte p3.toInt8.toInt32))) &&& (255 : Int32)) = (own_ref (own_pick (off) (p1) (p2) (p3))))) ∧ (¬ (((own_el off ((nar .byte p1.toInt8.toInt32)) ((nar .byte p2.toInt8.toInt32)) ((nar .byte p3.toInt8.toInt32))) &&& (255 : Int32)) < (0 : Int32)) ∧ (¬ ((255 : Int32) < ((own_el off ((nar .byte p1.toInt8.toInt32)) ((nar .byte p2.toInt8.toInt32)) ((nar .byte p3.toInt8.toInt32))) &&& (255 : Int32)))))) ∧ (((off + (1 : Int32)) = (3 : Int32)) ↔ (off = (2 : Int32)))))), .val (.int ((own_el off ((nar .byte p1.toInt8.toInt32)) ((nar .byte p2.toInt8.toInt32)) ((nar .byte p3.toInt8.toInt32))) &&& (255 : Int32))), .val (.int ((own_el (off + (1 : Int32)) ((nar .byte p1.toInt8.toInt32)) ((nar .byte p2.toInt8.toInt32)) ((nar .byte p3.toInt8.toInt32))) &&& (255 : Int32)))] [(.int (bI ((((¬ (off = (3 : Int32))) ∧ (((own_el off ((nar .byte p1.toInt8.toInt32)) ((nar .byte p2.toInt8.toInt32)) ((nar .byte p3.toInt8.toInt32))) &&& (255 : Int32)) = (own_ref (own_pick (off) (p1) (p2) (p3))))) ∧ (¬ (((own_el off ((nar .byte p1.toInt8.toInt32)) ((nar .byte p2.toInt8.toInt32)) ((nar .byte p3.toInt8.toInt32))) &&& (255 : Int32)) < (0 : Int32)) ∧ (¬ ((255 : Int32) < ((own_el off ((nar .byte p1.toInt8.toInt32)) ((nar .byte p2.toInt8.toInt32)) ((nar .byte p3.toInt8.toInt32))) &&& (255 : Int32)))))) ∧ (((off + (1 : Int32)) = (3 : Int32)) ↔ (off = (2 : Int32))))))])) tgt → Steps p.tables e below (s₁.setTop (entryFrame m #[(.int p1), (.int p2), (.int p3), (.int p4)] maxLocals)) tgt := by
      intro tgt kk
      refine pre76 tgt ?_
      refine st77.trans ?_
      show Steps p.tables e below (T77.setTop (mkF m 158 #[.val (.int p1), .val (.int p2), .val (.int p3), .val (.int p4), .val (.ref b2), .val (.int off), .val (.ref b20), .val (.int (bI ((((¬ (off = (3 : Int32))) ∧ (((own_el off ((nar .byte p1.toInt8.toInt32)) ((nar .byte p2.toInt8.toInt32)) ((nar .byte p3.toInt8.toInt32))) &&& (255 : Int32)) = (own_ref (own_pick (off) (p1) (p2) (p3))))) ∧ (¬ (((own_el off ((nar .byte p1.toInt8.toInt32)) ((nar .byte p2.toInt8.toInt32)) ((nar .byte p3.toInt8.toInt32))) &&& (255 : Int32)) < (0 : Int32)) ∧ (¬ ((255 : Int32) < ((own_el off ((nar .byte p1.toInt8.toInt32)) ((nar .byte p2.toInt8.toInt32)) ((nar .byte p3.toInt8.toInt32))) &&& (255 : Int32)))))) ∧ (((off + (1 : Int32)) = (3 : Int32)) ↔ (off = (2 : Int32)))))), .val (.int ((own_el off ((nar .byte p1.toInt8.toInt32)) ((nar .byte p2.toInt8.toInt32)) ((nar .byte p3.toInt8.toInt32))) &&& (255 : Int32))), .unset] [(.int ((own_el (off + (1 : Int32)) ((nar .byte p1.toInt8.toInt32)) ((nar .byte p2.toInt8.toInt32)) ((nar .byte p3.toInt8.toInt32))) &&& (255 : Int32)))])) _
      refine XS.istore X77.here hx rfl (hb hby at_158) rfl (l' := #[.val (.int p1), .val (.int p2), .val (.int p3), .val (.int p4), .val (.ref b2), .val (.int off), .val (.ref b20), .val (.int (bI ((((¬ (off = (3 : Int32))) ∧ (((own_el off ((nar .byte p1.toInt8.toInt32)) ((nar .byte p2.toInt8.toInt32)) ((nar .byte p3.toInt8.toInt32))) &&& (255 : Int32)) = (own_ref (own_pick (off) (p1) (p2) (p3))))) ∧ (¬ (((own_el off ((nar .byte p1.toInt8.toInt32)) ((nar .byte p2.toInt8.toInt32)) ((nar .byte p3.toInt8.toInt32))) &&& (255 : Int32)) < (0 : Int32)) ∧ (¬ ((255 : Int32) < ((own_el off ((nar .byte p1.toInt8.toInt32)) ((nar .byte p2.toInt8.toInt32)) ((nar .byte p3.toInt8.toInt32))) &&& (255 : Int32)))))) ∧ (((off + (1 : Int32)) = (3 : Int32)) ↔ (off = (2 : Int32)))))), .val (.int ((own_el off ((nar .byte p1.toInt8.toInt32)) ((nar .byte p2.toInt8.toInt32)) ((nar .byte p3.toInt8.toInt32))) &&& (255 : Int32))), .val (.int ((own_el (off + (1 : Int32)) ((nar .byte p1.toInt8.toInt32)) ((nar .byte p2.toInt8.toInt32)) ((nar .byte p3.toInt8.toInt32))) &&& (255 : Int32)))]) rfl ?_
      show Steps p.tables e below (T77.setTop (mkF m 160 #[.val (.int p1), .val (.int p2), .val (.int p3), .val (.int p4), .val (.ref b2), .val (.int off), .val (.ref b20), .val (.int (bI ((((¬ (off = (3 : Int32))) ∧ (((own_el off ((nar .byte p1.toInt8.toInt32)) ((nar .byte p2.toInt8.toInt32)) ((nar .byte p3.toInt8.toInt32))) &&& (255 : Int32)) = (own_ref (own_pick (off) (p1) (p2) (p3))))) ∧ (¬ (((own_el off ((nar .byte p1.toInt8.toInt32)) ((nar .byte p2.toInt8.toInt32)) ((nar .byte p3.toInt8.toInt32))) &&& (255 : Int32)) < (0 : Int32)) ∧ (¬ ((255 : Int32) < ((own_el off ((nar .byte p1.toInt8.toInt32)) ((nar .byte p2.toInt8.toInt32)) ((nar .byte p3.toInt8.toInt32))) &&& (255 : Int32)))))) ∧ (((off + (1 : Int32)) = (3 : Int32)) ↔ (off = (2 : Int32)))))), .val (.int ((own_el off ((nar .byte p1.toInt8.toInt32)) ((nar .byte p2.toInt8.toInt32)) ((nar .byte p3.toInt8.toInt32))) &&& (255 : Int32))), .val (.int ((own_el (off + (1 : Int32)) ((nar .byte p1.toInt8.toInt32)) ((nar .byte p2.toInt8.toInt32)) ((nar .byte p3.toInt8.toInt32))) &&& (255 : Int32)))] [])) _
      refine XS.iload X77.here hx rfl (hb hby at_160) rfl ?_
      show Steps p.tables e below (T77.setTop (mkF m 162 #[.val (.int p1), .val (.int p2), .val (.int p3), .val (.int p4), .val (.ref b2), .val (.int off), .val (.ref b20), .val (.int (bI ((((¬ (off = (3 : Int32))) ∧ (((own_el off ((nar .byte p1.toInt8.toInt32)) ((nar .byte p2.toInt8.toInt32)) ((nar .byte p3.toInt8.toInt32))) &&& (255 : Int32)) = (own_ref (own_pick (off) (p1) (p2) (p3))))) ∧ (¬ (((own_el off ((nar .byte p1.toInt8.toInt32)) ((nar .byte p2.toInt8.toInt32)) ((nar .byte p3.toInt8.toInt32))) &&& (255 : Int32)) < (0 : Int32)) ∧ (¬ ((255 : Int32) < ((own_el off ((nar .byte p1.toInt8.toInt32)) ((nar .byte p2.toInt8.toInt32)) ((nar .byte p3.toInt8.toInt32))) &&& (255 : Int32)))))) ∧ (((off + (1 : Int32)) = (3 : Int32)) ↔ (off = (2 : Int32)))))), .val (.int ((own_el off ((nar .byte p1.toInt8.toInt32)) ((nar .byte p2.toInt8.toInt32)) ((nar .byte p3.toInt8.toInt32))) &&& (255 : Int32))), .val (.int ((own_el (off + (1 : Int32)) ((nar .byte p1.toInt8.toInt32)) ((nar .byte p2.toInt8.toInt32)) ((nar .byte p3.toInt8.toInt32))) &&& (255 : Int32)))] [(.int (bI ((((¬ (off = (3 : Int32))) ∧ (((own_el off ((nar .byte p1.toInt8.toInt32)) ((nar .byte p2.toInt8.toInt32)) ((nar .byte p3.toInt8.toInt32))) &&& (255 : Int32)) = (own_ref (own_pick (off) (p1) (p2) (p3))))) ∧ (¬ (((own_el off ((nar .byte p1.toInt8.toInt32)) ((nar .byte p2.toInt8.toInt32)) ((nar .byte p3.toInt8.toInt32))) &&& (255 : Int32)) < (0 : Int32)) ∧ (¬ ((255 : Int32) < ((own_el off ((nar .byte p1.toInt8.toInt32)) ((nar .byte p2.toInt8.toInt32)) ((nar .byte p3.toInt8.toInt32))) &&& (255 : Int32)))))) ∧ (((off + (1 : Int32)) = (3 : Int32)) ↔ (off = (2 : Int32))))))])) _
      exact kk
    obtain ⟨T87, lo87, X87, N87, e87, pre87⟩ : ∃ (T' : State) (lo : List Loc), Stand p l e room_1 s m #[(.int p1), (.int p2), (.int p3), (.int p4)] below meth c T' lo 2 5 ∧ Fr n0 lo ∧ T'.heap = T77.heap ∧ ∀ tgt, Steps p.tables e below (T'.setTop (mkF m 188 #[.val (.int p1), .val (.int p2), .val (.int p3), .val (.int p4), .val (.ref b2), .val (.int off), .val (.ref b20), .val (.int (bI ((((¬ (off = (3 : Int32))) ∧ (((own_el off ((nar .byte p1.toInt8.toInt32)) ((nar .byte p2.toInt8.toInt32)) ((nar .byte p3.toInt8.toInt32))) &&& (255 : Int32)) = (own_ref (own_pick (off) (p1) (p2) (p3))))) ∧ (¬ (((own_el off ((nar .byte p1.toInt8.toInt32)) ((nar .byte p2.toInt8.toInt32)) ((nar .byte p3.toInt8.toInt32))) &&& (255 : Int32)) < (0 : Int32)) ∧ (¬ ((255 : Int32) < ((own_el off ((nar .byte p1.toInt8.toInt32)) ((nar .byte p2.toInt8.toInt32)) ((nar .byte p3.toInt8.toInt32))) &&& (255 : Int32)))))) ∧ (((off + (1 : Int32)) = (3 : Int32)) ↔ (off = (2 : Int32)))))), .val (.int ((own_el off ((nar .byte p1.toInt8.toInt32)) ((nar .byte p2.toInt8.toInt32)) ((nar .byte p3.toInt8.toInt32))) &&& (255 : Int32))), .val (.int ((own_el (off + (1 : Int32)) ((nar .byte p1.toInt8.toInt32)) ((nar .byte p2.toInt8.toInt32)) ((nar .byte p3.toInt8.toInt32))) &&& (255 : Int32)))] [(.int (bI (((((¬ (off = (3 : Int32))) ∧ (((own_el off ((nar .byte p1.toInt8.toInt32)) ((nar .byte p2.toInt8.toInt32)) ((nar .byte p3.toInt8.toInt32))) &&& (255 : Int32)) = (own_ref (own_pick (off) (p1) (p2) (p3))))) ∧ (¬ (((own_el off ((nar .byte p1.toInt8.toInt32)) ((nar .byte p2.toInt8.toInt32)) ((nar .byte p3.toInt8.toInt32))) &&& (255 : Int32)) < (0 : Int32)) ∧ (¬ ((255 : Int32) < ((own_el off ((nar .byte p1.toInt8.toInt32)) ((nar .byte p2.toInt8.toInt32)) ((nar .byte p3.toInt8.toInt32))) &&& (255 : Int32)))))) ∧ (((off + (1 : Int32)) = (3 : Int32)) ↔ (off = (2 : Int32)))) ∧ (((own_el (off + (1 : Int32)) ((nar .byte p1.toInt8.toInt32)) ((nar .byte p2.toInt8.toInt32)) ((nar .byte p3.toInt8.toInt32))) &&& (255 : Int32)) = (own_ref (own_pick ((off + (1 : Int32))) (p1) (p2) (p3)))))))])) tgt → Steps p.tables e below (s₁.setTop (entryFrame m #[(.int p1), (.int p2), (.int p3), (.int p4)] maxLocals)) tgt := by
      by_cases hc162_80 : (((¬ (off = (3 : Int32))) ∧ (((own_el off ((nar .byte p1.toInt8.toInt32)) ((nar .byte p2.toInt8.toInt32)) ((nar .byte p3.toInt8.toInt32))) &&& (255 : Int32)) = (own_ref (own_pick (off) (p1) (p2) (p3))))) ∧ (¬ (((own_el off ((nar .byte p1.toInt8.toInt32)) ((nar .byte p2.toInt8.toInt32)) ((nar .byte p3.toInt8.toInt32))) &&& (255 : Int32)) < (0 : Int32)) ∧ (¬ ((255 : Int32) < ((own_el off ((nar .byte p1.toInt8.toInt32)) ((nar .byte p2.toInt8.toInt32)) ((nar .byte p3.toInt8.toInt32))) &&& (255 : Int32)))))) ∧ (((off + (1 : Int32)) = (3 : Int32)) ↔ (off = (2 : Int32)))
      · skip
        have pre81 : ∀ tgt, Steps p.tables e below (T77.setTop (mkF m 174 #[.val (.int p1), .val (.int p2), .val (.int p3), .val (.int p4), .val (.ref b2), .val (.int off), .val (.ref b20), .val (.int (bI ((((¬ (off = (3 : Int32))) ∧ (((own_el off ((nar .byte p1.toInt8.toInt32)) ((nar .byte p2.toInt8.toInt32)) ((nar .byte p3.toInt8.toInt32))) &&& (255 : Int32)) = (own_ref (own_pick (off) (p1) (p2) (p3))))) ∧ (¬ (((own_el off ((nar .byte p1.toInt8.toInt32)) ((nar .byte p2.toInt8.toInt32)) ((nar .byte p3.toInt8.toInt32))) &&& (255 : Int32)) < (0 : Int32)) ∧ (¬ ((255 : Int32) < ((own_el off ((nar .byte p1.toInt8.toInt32)) ((nar .byte p2.toInt8.toInt32)) ((nar .byte p3.toInt8.toInt32))) &&& (255 : Int32)))))) ∧ (((off + (1 : Int32)) = (3 : Int32)) ↔ (off = (2 : Int32)))))), .val (.int ((own_el off ((nar .byte p1.toInt8.toInt32)) ((nar .byte p2.toInt8.toInt32)) ((nar .byte p3.toInt8.toInt32))) &&& (255 : Int32))), .val (.int ((own_el (off + (1 : Int32)) ((nar .byte p1.toInt8.toInt32)) ((nar .byte p2.toInt8.toInt32)) ((nar .byte p3.toInt8.toInt32))) &&& (255 : Int32)))] [(.int p3), (.int p2), (.int p1), (.int (off + (1 : Int32))), (.int ((own_el (off + (1 : Int32)) ((nar .byte p1.toInt8.toInt32)) ((nar .byte p2.toInt8.toInt32)) ((nar .byte p3.toInt8.toInt32))) &&& (255 : Int32)))])) tgt → Steps p.tables e below (s₁.setTop (entryFrame m #[(.int p1), (.int p2), (.int p3), (.int p4)] maxLocals)) tgt := by
          intro tgt kk
          refine pre79 tgt ?_
          refine XS.ifNo X77.here hx rfl (hb hby at_162) rfl (bB_eq_f hc162_80) ?_
          show Steps p.tables e below (T77.setTop (mkF m 165 #[.val (.int p1), .val (.int p2), .val (.int p3), .val (.int p4), .val (.ref b2), .val (.int off), .val (.ref b20), .val (.int (bI ((((¬ (off = (3 : Int32))) ∧ (((own_el off ((nar .byte p1.toInt8.toInt32)) ((nar .byte p2.toInt8.toInt32)) ((nar .byte p3.toInt8.toInt32))) &&& (255 : Int32)) = (own_ref (own_pick (off) (p1) (p2) (p3))))) ∧ (¬ (((own_el off ((nar .byte p1.toInt8.toInt32)) ((nar .byte p2.toInt8.toInt32)) ((nar .byte p3.toInt8.toInt32))) &&& (255 : Int32)) < (0 : Int32)) ∧ (¬ ((255 : Int32) < ((own_el off ((nar .byte p1.toInt8.toInt32)) ((nar .byte p2.toInt8.toInt32)) ((nar .byte p3.toInt8.toInt32))) &&& (255 : Int32)))))) ∧ (((off + (1 : Int32)) = (3 : Int32)) ↔ (off = (2 : Int32)))))), .val (.int ((own_el off ((nar .byte p1.toInt8.toInt32)) ((nar .byte p2.toInt8.toInt32)) ((nar .byte p3.toInt8.toInt32))) &&& (255 : Int32))), .val (.int ((own_el (off + (1 : Int32)) ((nar .byte p1.toInt8.toInt32)) ((nar .byte p2.toInt8.toInt32)) ((nar .byte p3.toInt8.toInt32))) &&& (255 : Int32)))] [])) _
          refine XS.iload X77.here hx rfl (hb hby at_165) rfl ?_
          show Steps p.tables e below (T77.setTop (mkF m 167 #[.val (.int p1), .val (.int p2), .val (.int p3), .val (.int p4), .val (.ref b2), .val (.int off), .val (.ref b20), .val (.int (bI ((((¬ (off = (3 : Int32))) ∧ (((own_el off ((nar .byte p1.toInt8.toInt32)) ((nar .byte p2.toInt8.toInt32)) ((nar .byte p3.toInt8.toInt32))) &&& (255 : Int32)) = (own_ref (own_pick (off) (p1) (p2) (p3))))) ∧ (¬ (((own_el off ((nar .byte p1.toInt8.toInt32)) ((nar .byte p2.toInt8.toInt32)) ((nar .byte p3.toInt8.toInt32))) &&& (255 : Int32)) < (0 : Int32)) ∧ (¬ ((255 : Int32) < ((own_el off ((nar .byte p1.toInt8.toInt32)) ((nar .byte p2.toInt8.toInt32)) ((nar .byte p3.toInt8.toInt32))) &&& (255 : Int32)))))) ∧ (((off + (1 : Int32)) = (3 : Int32)) ↔ (off = (2 : Int32)))))), .val (.int ((own_el off ((nar .byte p1.toInt8.toInt32)) ((nar .byte p2.toInt8.toInt32)) ((nar .byte p3.toInt8.toInt32))) &&& (255 : Int32))), .val (.int ((own_el (off + (1 : Int32)) ((nar .byte p1.toInt8.toInt32)) ((nar .byte p2.toInt8.toInt32)) ((nar .byte p3.toInt8.toInt32))) &&& (255 : Int32)))] [(.int ((own_el (off + (1 : Int32)) ((nar .byte p1.toInt8.toInt32)) ((nar .byte p2.toInt8.toInt32)) ((nar .byte p3.toInt8.toInt32))) &&& (255 : Int32)))])) _
          refine XS.iload X77.here hx rfl (hb hby at_167) rfl ?_
          show Steps p.tables e below (T77.setTop (mkF m 169 #[.val (.int p1), .val (.int p2), .val (.int p3), .val (.int p4), .val (.ref b2), .val (.int off), .val (.ref b20), .val (.int (bI ((((¬ (off = (3 : Int32))) ∧ (((own_el off ((nar .byte p1.toInt8.toInt32)) ((nar .byte p2.toInt8.toInt32)) ((nar .byte p3.toInt8.toInt32))) &&& (255 : Int32)) = (own_ref (own_pick (off) (p1) (p2) (p3))))) ∧ (¬ (((own_el off ((nar .byte p1.toInt8.toInt32)) ((nar .byte p2.toInt8.toInt32)) ((nar .byte p3.toInt8.toInt32))) &&& (255 : Int32)) < (0 : Int32)) ∧ (¬ ((255 : Int32) < ((own_el off ((nar .byte p1.toInt8.toInt32)) ((nar .byte p2.toInt8.toInt32)) ((nar .byte p3.toInt8.toInt32))) &&& (255 : Int32)))))) ∧ (((off + (1 : Int32)) = (3 : Int32)) ↔ (off = (2 : Int32)))))), .val (.int ((own_el off ((nar .byte p1.toInt8.toInt32)) ((nar .byte p2.toInt8.toInt32)) ((nar .byte p3.toInt8.toInt32))) &&& (255 : Int32))), .val (.int ((own_el (off + (1 : Int32)) ((nar .byte p1.toInt8.toInt32)) ((nar .byte p2.toInt8.toInt32)) ((nar .byte p3.toInt8.toInt32))) &&& (255 : Int32)))] [(.int off), (.int ((own_el (off + (1 : Int32)) ((nar .byte p1.toInt8.toInt32)) ((nar .byte p2.toInt8.toInt32)) ((nar .byte p3.toInt8.toInt32))) &&& (255 : Int32)))])) _
          refine XS.iconst X77.here hx rfl (hb hby at_169) ?_
          show Steps p.tables e below (T77.setTop (mkF m 170 #[.val (.int p1), .val (.int p2), .val (.int p3), .val (.int p4), .val (.ref b2), .val (.int off), .val (.ref b20), .val (.int (bI ((((¬ (off = (3 : Int32))) ∧ (((own_el off ((nar .byte p1.toInt8.toInt32)) ((nar .byte p2.toInt8.toInt32)) ((nar .byte p3.toInt8.toInt32))) &&& (255 : Int32)) = (own_ref (own_pick (off) (p1) (p2) (p3))))) ∧ (¬ (((own_el off ((nar .byte p1.toInt8.toInt32)) ((nar .byte p2.toInt8.toInt32)) ((nar .byte p3.toInt8.toInt32))) &&& (255 : Int32)) < (0 : Int32)) ∧ (¬ ((255 : Int32) < ((own_el off ((nar .byte p1.toInt8.toInt32)) ((nar .byte p2.toInt8.toInt32)) ((nar .byte p3.toInt8.toInt32))) &&& (255 : Int32)))))) ∧ (((off + (1 : Int32)) = (3 : Int32)) ↔ (off = (2 : Int32)))))), .val (.int ((own_el off ((nar .byte p1.toInt8.toInt32)) ((nar .byte p2.toInt8.toInt32)) ((nar .byte p3.toInt8.toInt32))) &&& (255 : Int32))), .val (.int ((own_el (off + (1 : Int32)) ((nar .byte p1.toInt8.toInt32)) ((nar .byte p2.toInt8.toInt32)) ((nar .byte p3.toInt8.toInt32))) &&& (255 : Int32)))] [(.int (1 : Int32)), (.int off), (.int ((own_el (off + (1 : Int32)) ((nar .byte p1.toInt8.toInt32)) ((nar .byte p2.toInt8.toInt32)) ((nar .byte p3.toInt8.toInt32))) &&& (255 : Int32)))])) _
          refine XS.iadd X77.here hx rfl (hb hby at_170) rfl ?_
          show Steps p.tables e below (T77.setTop (mkF m 171 #[.val (.int p1), .val (.int p2), .val (.int p3), .val (.int p4), .val (.ref b2), .val (.int off), .val (.ref b20), .val (.int (bI ((((¬ (off = (3 : Int32))) ∧ (((own_el off ((nar .byte p1.toInt8.toInt32)) ((nar .byte p2.toInt8.toInt32)) ((nar .byte p3.toInt8.toInt32))) &&& (255 : Int32)) = (own_ref (own_pick (off) (p1) (p2) (p3))))) ∧ (¬ (((own_el off ((nar .byte p1.toInt8.toInt32)) ((nar .byte p2.toInt8.toInt32)) ((nar .byte p3.toInt8.toInt32))) &&& (255 : Int32)) < (0 : Int32)) ∧ (¬ ((255 : Int32) < ((own_el off ((nar .byte p1.toInt8.toInt32)) ((nar .byte p2.toInt8.toInt32)) ((nar .byte p3.toInt8.toInt32))) &&& (255 : Int32)))))) ∧ (((off + (1 : Int32)) = (3 : Int32)) ↔ (off = (2 : Int32)))))), .val (.int ((own_el off ((nar .byte p1.toInt8.toInt32)) ((nar .byte p2.toInt8.toInt32)) ((nar .byte p3.toInt8.toInt32))) &&& (255 : Int32))), .val (.int ((own_el (off + (1 : Int32)) ((nar .byte p1.toInt8.toInt32)) ((nar .byte p2.toInt8.toInt32)) ((nar .byte p3.toInt8.toInt32))) &&& (255 : Int32)))] [(.int (off + (1 : Int32))), (.int ((own_el (off + (1 : Int32)) ((nar .byte p1.toInt8.toInt32)) ((nar .byte p2.toInt8.toInt32)) ((nar .byte p3.toInt8.toInt32))) &&& (255 : Int32)))])) _
          refine XS.iloadN X77.here hx rfl (hb hby at_171) rfl ?_
          show Steps p.tables e below (T77.setTop (mkF m 172 #[.val (.int p1), .val (.int p2), .val (.int p3), .val (.int p4), .val (.ref b2), .val (.int off), .val (.ref b20), .val (.int (bI ((((¬ (off = (3 : Int32))) ∧ (((own_el off ((nar .byte p1.toInt8.toInt32)) ((nar .byte p2.toInt8.toInt32)) ((nar .byte p3.toInt8.toInt32))) &&& (255 : Int32)) = (own_ref (own_pick (off) (p1) (p2) (p3))))) ∧ (¬ (((own_el off ((nar .byte p1.toInt8.toInt32)) ((nar .byte p2.toInt8.toInt32)) ((nar .byte p3.toInt8.toInt32))) &&& (255 : Int32)) < (0 : Int32)) ∧ (¬ ((255 : Int32) < ((own_el off ((nar .byte p1.toInt8.toInt32)) ((nar .byte p2.toInt8.toInt32)) ((nar .byte p3.toInt8.toInt32))) &&& (255 : Int32)))))) ∧ (((off + (1 : Int32)) = (3 : Int32)) ↔ (off = (2 : Int32)))))), .val (.int ((own_el off ((nar .byte p1.toInt8.toInt32)) ((nar .byte p2.toInt8.toInt32)) ((nar .byte p3.toInt8.toInt32))) &&& (255 : Int32))), .val (.int ((own_el (off + (1 : Int32)) ((nar .byte p1.toInt8.toInt32)) ((nar .byte p2.toInt8.toInt32)) ((nar .byte p3.toInt8.toInt32))) &&& (255 : Int32)))] [(.int p1), (.int (off + (1 : Int32))), (.int ((own_el (off + (1 : Int32)) ((nar .byte p1.toInt8.toInt32)) ((nar .byte p2.toInt8.toInt32)) ((nar .byte p3.toInt8.toInt32))) &&& (255 : Int32)))])) _
          refine XS.iloadN X77.here hx rfl (hb hby at_172) rfl ?_
          show Steps p.tables e below (T77.setTop (mkF m 173 #[.val (.int p1), .val (.int p2), .val (.int p3), .val (.int p4), .val (.ref b2), .val (.int off), .val (.ref b20), .val (.int (bI ((((¬ (off = (3 : Int32))) ∧ (((own_el off ((nar .byte p1.toInt8.toInt32)) ((nar .byte p2.toInt8.toInt32)) ((nar .byte p3.toInt8.toInt32))) &&& (255 : Int32)) = (own_ref (own_pick (off) (p1) (p2) (p3))))) ∧ (¬ (((own_el off ((nar .byte p1.toInt8.toInt32)) ((nar .byte p2.toInt8.toInt32)) ((nar .byte p3.toInt8.toInt32))) &&& (255 : Int32)) < (0 : Int32)) ∧ (¬ ((255 : Int32) < ((own_el off ((nar .byte p1.toInt8.toInt32)) ((nar .byte p2.toInt8.toInt32)) ((nar .byte p3.toInt8.toInt32))) &&& (255 : Int32)))))) ∧ (((off + (1 : Int32)) = (3 : Int32)) ↔ (off = (2 : Int32)))))), .val (.int ((own_el off ((nar .byte p1.toInt8.toInt32)) ((nar .byte p2.toInt8.toInt32)) ((nar .byte p3.toInt8.toInt32))) &&& (255 : Int32))), .val (.int ((own_el (off + (1 : Int32)) ((nar .byte p1.toInt8.toInt32)) ((nar .byte p2.toInt8.toInt32)) ((nar .byte p3.toInt8.toInt32))) &&& (255 : Int32)))] [(.int p2), (.int p1), (.int (off + (1 : Int32))), (.int ((own_el (off + (1 : Int32)) ((nar .byte p1.toInt8.toInt32)) ((nar .byte p2.toInt8.toInt32)) ((nar .byte p3.toInt8.toInt32))) &&& (255 : Int32)))])) _
          refine XS.iloadN X77.here hx rfl (hb hby at_173) rfl ?_
          show Steps p.tables e below (T77.setTop (mkF m 174 #[.val (.int p1), .val (.int p2), .val (.int p3), .val (.int p4), .val (.ref b2), .val (.int off), .val (.ref b20), .val (.int (bI ((((¬ (off = (3 : Int32))) ∧ (((own_el off ((nar .byte p1.toInt8.toInt32)) ((nar .byte p2.toInt8.toInt32)) ((nar .byte p3.toInt8.toInt32))) &&& (255 : Int32)) = (own_ref (own_pick (off) (p1) (p2) (p3))))) ∧ (¬ (((own_el off ((nar .byte p1.toInt8.toInt32)) ((nar .byte p2.toInt8.toInt32)) ((nar .byte p3.toInt8.toInt32))) &&& (255 : Int32)) < (0 : Int32)) ∧ (¬ ((255 : Int32) < ((own_el off ((nar .byte p1.toInt8.toInt32)) ((nar .byte p2.toInt8.toInt32)) ((nar .byte p3.toInt8.toInt32))) &&& (255 : Int32)))))) ∧ (((off + (1 : Int32)) = (3 : Int32)) ↔ (off = (2 : Int32)))))), .val (.int ((own_el off ((nar .byte p1.toInt8.toInt32)) ((nar .byte p2.toInt8.toInt32)) ((nar .byte p3.toInt8.toInt32))) &&& (255 : Int32))), .val (.int ((own_el (off + (1 : Int32)) ((nar .byte p1.toInt8.toInt32)) ((nar .byte p2.toInt8.toInt32)) ((nar .byte p3.toInt8.toInt32))) &&& (255 : Int32)))] [(.int p3), (.int p2), (.int p1), (.int (off + (1 : Int32))), (.int ((own_el (off + (1 : Int32)) ((nar .byte p1.toInt8.toInt32)) ((nar .byte p2.toInt8.toInt32)) ((nar .byte p3.toInt8.toInt32))) &&& (255 : Int32)))])) _
          exact kk
        obtain ⟨_, _, ⟨T82, L82, k82, n82⟩, -, X82, ⟨Lc82, hQ82, l82, y82, z82⟩, st82⟩ := Jvm.LawKit.callS X77 hx (y := (⟨"com/example/fir/fir/core/DecoderReadBytePinLaw", "pick", "(IIII)I"⟩ : MethodName)) hown (mvT hZ (hw _ (List.mem_of_getElem? (i := 25) rfl))) (mvT hZ (hw _ (List.mem_of_getElem? (i := 26) rfl))) (mvT hZ (hw _ (List.mem_of_getElem? (i := 27) rfl))) (mvT hZ (hw _ (List.mem_of_getElem? (i := 28) rfl))) (by decide) (backOf (W := 1) (rmP l Z a0 hw [] ((off + (1 : Int32))) (p1) (p2) (p3) T77.heap n0 Zs78) hZ (hw _ (List.mem_of_getElem? (i := 28) rfl)) (hw _ (List.mem_of_getElem? (i := 27) rfl)) (by decide) (by decide)) (g := (mkF m 174 #[.val (.int p1), .val (.int p2), .val (.int p3), .val (.int p4), .val (.ref b2), .val (.int off), .val (.ref b20), .val (.int (bI ((((¬ (off = (3 : Int32))) ∧ (((own_el off ((nar .byte p1.toInt8.toInt32)) ((nar .byte p2.toInt8.toInt32)) ((nar .byte p3.toInt8.toInt32))) &&& (255 : Int32)) = (own_ref (own_pick (off) (p1) (p2) (p3))))) ∧ (¬ (((own_el off ((nar .byte p1.toInt8.toInt32)) ((nar .byte p2.toInt8.toInt32)) ((nar .byte p3.toInt8.toInt32))) &&& (255 : Int32)) < (0 : Int32)) ∧ (¬ ((255 : Int32) < ((own_el off ((nar .byte p1.toInt8.toInt32)) ((nar .byte p2.toInt8.toInt32)) ((nar .byte p3.toInt8.toInt32))) &&& (255 : Int32)))))) ∧ (((off + (1 : Int32)) = (3 : Int32)) ↔ (off = (2 : Int32)))))), .val (.int ((own_el off ((nar .byte p1.toInt8.toInt32)) ((nar .byte p2.toInt8.toInt32)) ((nar .byte p3.toInt8.toInt32))) &&& (255 : Int32))), .val (.int ((own_el (off + (1 : Int32)) ((nar .byte p1.toInt8.toInt32)) ((nar .byte p2.toInt8.toInt32)) ((nar .byte p3.toInt8.toInt32))) &&& (255 : Int32)))] [(.int p3), (.int p2), (.int p1), (.int (off + (1 : Int32))), (.int ((own_el (off + (1 : Int32)) ((nar .byte p1.toInt8.toInt32)) ((nar .byte p2.toInt8.toInt32)) ((nar .byte p3.toInt8.toInt32))) &&& (255 : Int32)))])) rfl (by rw [hml]; rfl) (argsL := [(.int (off + (1 : Int32))), (.int p1), (.int p2), (.int p3)]) (rest := [(.int ((own_el (off + (1 : Int32)) ((nar .byte p1.toInt8.toInt32)) ((nar .byte p2.toInt8.toInt32)) ((nar .byte p3.toInt8.toInt32))) &&& (255 : Int32)))]) (lenOf pd__IIII_I rfl) rfl (by show 2 * 0 + _ ≤ _; exact Nat.le_of_eq rfl) (hb hby at_174) (fun _ _ => ⟨rfl, rfl, (by decide : 2 + 0 ≤ _), (by decide : 5 + 0 ≤ _)⟩)
        dsimp only [Pt.U, Pt.locs, Pt.cells, Pt.slots] at X82 l82 y82 z82 st82 hQ82
        subst l82 y82 z82
        obtain ⟨rfl, N82q, hh82⟩ := hQ82
        have N82 := Fr.app N77 N82q
        have pre83 : ∀ tgt, Steps p.tables e below (T82.setTop (mkF m 177 #[.val (.int p1), .val (.int p2), .val (.int p3), .val (.int p4), .val (.ref b2), .val (.int off), .val (.ref b20), .val (.int (bI ((((¬ (off = (3 : Int32))) ∧ (((own_el off ((nar .byte p1.toInt8.toInt32)) ((nar .byte p2.toInt8.toInt32)) ((nar .byte p3.toInt8.toInt32))) &&& (255 : Int32)) = (own_ref (own_pick (off) (p1) (p2) (p3))))) ∧ (¬ (((own_el off ((nar .byte p1.toInt8.toInt32)) ((nar .byte p2.toInt8.toInt32)) ((nar .byte p3.toInt8.toInt32))) &&& (255 : Int32)) < (0 : Int32)) ∧ (¬ ((255 : Int32) < ((own_el off ((nar .byte p1.toInt8.toInt32)) ((nar .byte p2.toInt8.toInt32)) ((nar .byte p3.toInt8.toInt32))) &&& (255 : Int32)))))) ∧ (((off + (1 : Int32)) = (3 : Int32)) ↔ (off = (2 : Int32)))))), .val (.int ((own_el off ((nar .byte p1.toInt8.toInt32)) ((nar .byte p2.toInt8.toInt32)) ((nar .byte p3.toInt8.toInt32))) &&& (255 : Int32))), .val (.int ((own_el (off + (1 : Int32)) ((nar .byte p1.toInt8.toInt32)) ((nar .byte p2.toInt8.toInt32)) ((nar .byte p3.toInt8.toInt32))) &&& (255 : Int32)))] [(.int (own_pick ((off + (1 : Int32))) (p1) (p2) (p3))), (.int ((own_el (off + (1 : Int32)) ((nar .byte p1.toInt8.toInt32)) ((nar .byte p2.toInt8.toInt32)) ((nar .byte p3.toInt8.toInt32))) &&& (255 : Int32)))])) tgt → Steps p.tables e below (s₁.setTop (entryFrame m #[(.int p1), (.int p2), (.int p3), (.int p4)] maxLocals)) tgt := by
          intro tgt kk
          refine pre81 tgt ?_
          refine st82 _ ?_
          show Steps p.tables e below (T82.setTop (mkF m 177 #[.val (.int p1), .val (.int p2), .val (.int p3), .val (.int p4), .val (.ref b2), .val (.int off), .val (.ref b20), .val (.int (bI ((((¬ (off = (3 : Int32))) ∧ (((own_el off ((nar .byte p1.toInt8.toInt32)) ((nar .byte p2.toInt8.toInt32)) ((nar .byte p3.toInt8.toInt32))) &&& (255 : Int32)) = (own_ref (own_pick (off) (p1) (p2) (p3))))) ∧ (¬ (((own_el off ((nar .byte p1.toInt8.toInt32)) ((nar .byte p2.toInt8.toInt32)) ((nar .byte p3.toInt8.toInt32))) &&& (255 : Int32)) < (0 : Int32)) ∧ (¬ ((255 : Int32) < ((own_el off ((nar .byte p1.toInt8.toInt32)) ((nar .byte p2.toInt8.toInt32)) ((nar .byte p3.toInt8.toInt32))) &&& (255 : Int32)))))) ∧ (((off + (1 : Int32)) = (3 : Int32)) ↔ (off = (2 : Int32)))))), .val (.int ((own_el off ((nar .byte p1.toInt8.toInt32)) ((nar .byte p2.toInt8.toInt32)) ((nar .byte p3.toInt8.toInt32))) &&& (255 : Int32))), .val (.int ((own_el (off + (1 : Int32)) ((nar .byte p1.toInt8.toInt32)) ((nar .byte p2.toInt8.toInt32)) ((nar .byte p3.toInt8.toInt32))) &&& (255 : Int32)))] [(.int (own_pick ((off + (1 : Int32))) (p1) (p2) (p3))), (.int ((own_el (off + (1 : Int32)) ((nar .byte p1.toInt8.toInt32)) ((nar .byte p2.toInt8.toInt32)) ((nar .byte p3.toInt8.toInt32))) &&& (255 : Int32)))])) _
          exact kk
        obtain ⟨_, _, ⟨T84, L84, k84, n84⟩, -, X84, ⟨Lc84, hQ84, l84, y84, z84⟩, st84⟩ := Jvm.LawKit.callS X82 hx (y := (⟨"com/example/fir/fir/core/DecoderReadBytePinLaw", "ref", "(I)I"⟩ : MethodName)) hown (mvT hZ (hw _ (List.mem_of_getElem? (i := 29) rfl))) (mvT hZ (hw _ (List.mem_of_getElem? (i := 30) rfl))) (mvT hZ (hw _ (List.mem_of_getElem? (i := 27) rfl))) (mvT hZ (hw _ (List.mem_of_getElem? (i := 31) rfl))) (by decide) (backOf (W := 1) (rmF l Z a0 hw [] ((own_pick ((off + (1 : Int32))) (p1) (p2) (p3))) T77.heap n0 Zs78) hZ (hw _ (List.mem_of_getElem? (i := 31) rfl)) (hw _ (List.mem_of_getElem? (i := 27) rfl)) (by decide) (by decide)) (g := (mkF m 177 #[.val (.int p1), .val (.int p2), .val (.int p3), .val (.int p4), .val (.ref b2), .val (.int off), .val (.ref b20), .val (.int (bI ((((¬ (off = (3 : Int32))) ∧ (((own_el off ((nar .byte p1.toInt8.toInt32)) ((nar .byte p2.toInt8.toInt32)) ((nar .byte p3.toInt8.toInt32))) &&& (255 : Int32)) = (own_ref (own_pick (off) (p1) (p2) (p3))))) ∧ (¬ (((own_el off ((nar .byte p1.toInt8.toInt32)) ((nar .byte p2.toInt8.toInt32)) ((nar .byte p3.toInt8.toInt32))) &&& (255 : Int32)) < (0 : Int32)) ∧ (¬ ((255 : Int32) < ((own_el off ((nar .byte p1.toInt8.toInt32)) ((nar .byte p2.toInt8.toInt32)) ((nar .byte p3.toInt8.toInt32))) &&& (255 : Int32)))))) ∧ (((off + (1 : Int32)) = (3 : Int32)) ↔ (off = (2 : Int32)))))), .val (.int ((own_el off ((nar .byte p1.toInt8.toInt32)) ((nar .byte p2.toInt8.toInt32)) ((nar .byte p3.toInt8.toInt32))) &&& (255 : Int32))), .val (.int ((own_el (off + (1 : Int32)) ((nar .byte p1.toInt8.toInt32)) ((nar .byte p2.toInt8.toInt32)) ((nar .byte p3.toInt8.toInt32))) &&& (255 : Int32)))] [(.int (own_pick ((off + (1 : Int32))) (p1) (p2) (p3))), (.int ((own_el (off + (1 : Int32)) ((nar .byte p1.toInt8.toInt32)) ((nar .byte p2.toInt8.toInt32)) ((nar .byte p3.toInt8.toInt32))) &&& (255 : Int32)))])) rfl (by rw [hml]; rfl) (argsL := [(.int (own_pick ((off + (1 : Int32))) (p1) (p2) (p3)))]) (rest := [(.int ((own_el (off + (1 : Int32)) ((nar .byte p1.toInt8.toInt32)) ((nar .byte p2.toInt8.toInt32)) ((nar .byte p3.toInt8.toInt32))) &&& (255 : Int32)))]) (lenOf pd__I_I rfl) rfl (by show 2 * 0 + _ ≤ _; exact Nat.le_of_eq rfl) (hb hby at_177) (fun _ _ => ⟨rfl, hh82, (by decide : 2 + 0 ≤ _), (by decide : 5 + 0 ≤ _)⟩)
        dsimp only [Pt.U, Pt.locs, Pt.cells, Pt.slots] at X84 l84 y84 z84 st84 hQ84
        subst l84 y84 z84
        obtain ⟨rfl, N84q, hh84⟩ := hQ84
        have N84 := Fr.app N82 N84q
        have pre85 : ∀ tgt, Steps p.tables e below (T84.setTop (mkF m 180 #[.val (.int p1), .val (.int p2), .val (.int p3), .val (.int p4), .val (.ref b2), .val (.int off), .val (.ref b20), .val (.int (bI ((((¬ (off = (3 : Int32))) ∧ (((own_el off ((nar .byte p1.toInt8.toInt32)) ((nar .byte p2.toInt8.toInt32)) ((nar .byte p3.toInt8.toInt32))) &&& (255 : Int32)) = (own_ref (own_pick (off) (p1) (p2) (p3))))) ∧ (¬ (((own_el off ((nar .byte p1.toInt8.toInt32)) ((nar .byte p2.toInt8.toInt32)) ((nar .byte p3.toInt8.toInt32))) &&& (255 : Int32)) < (0 : Int32)) ∧ (¬ ((255 : Int32) < ((own_el off ((nar .byte p1.toInt8.toInt32)) ((nar .byte p2.toInt8.toInt32)) ((nar .byte p3.toInt8.toInt32))) &&& (255 : Int32)))))) ∧ (((off + (1 : Int32)) = (3 : Int32)) ↔ (off = (2 : Int32)))))), .val (.int ((own_el off ((nar .byte p1.toInt8.toInt32)) ((nar .byte p2.toInt8.toInt32)) ((nar .byte p3.toInt8.toInt32))) &&& (255 : Int32))), .val (.int ((own_el (off + (1 : Int32)) ((nar .byte p1.toInt8.toInt32)) ((nar .byte p2.toInt8.toInt32)) ((nar .byte p3.toInt8.toInt32))) &&& (255 : Int32)))] [(.int (own_ref (own_pick ((off + (1 : Int32))) (p1) (p2) (p3)))), (.int ((own_el (off + (1 : Int32)) ((nar .byte p1.toInt8.toInt32)) ((nar .byte p2.toInt8.toInt32)) ((nar .byte p3.toInt8.toInt32))) &&& (255 : Int32)))])) tgt → Steps p.tables e below (s₁.setTop (entryFrame m #[(.int p1), (.int p2), (.int p3), (.int p4)] maxLocals)) tgt := by
          intro tgt kk
          refine pre83 tgt ?_
          refine st84 _ ?_
          show Steps p.tables e below (T84.setTop (mkF m 180 #[.val (.int p1), .val (.int p2), .val (.int p3), .val (.int p4), .val (.ref b2), .val (.int off), .val (.ref b20), .val (.int (bI ((((¬ (off = (3 : Int32))) ∧ (((own_el off ((nar .byte p1.toInt8.toInt32)) ((nar .byte p2.toInt8.toInt32)) ((nar .byte p3.toInt8.toInt32))) &&& (255 : Int32)) = (own_ref (own_pick (off) (p1) (p2) (p3))))) ∧ (¬ (((own_el off ((nar .byte p1.toInt8.toInt32)) ((nar .byte p2.toInt8.toInt32)) ((nar .byte p3.toInt8.toInt32))) &&& (255 : Int32)) < (0 : Int32)) ∧ (¬ ((255 : Int32) < ((own_el off ((nar .byte p1.toInt8.toInt32)) ((nar .byte p2.toInt8.toInt32)) ((nar .byte p3.toInt8.toInt32))) &&& (255 : Int32)))))) ∧ (((off + (1 : Int32)) = (3 : Int32)) ↔ (off = (2 : Int32)))))), .val (.int ((own_el off ((nar .byte p1.toInt8.toInt32)) ((nar .byte p2.toInt8.toInt32)) ((nar .byte p3.toInt8.toInt32))) &&& (255 : Int32))), .val (.int ((own_el (off + (1 : Int32)) ((nar .byte p1.toInt8.toInt32)) ((nar .byte p2.toInt8.toInt32)) ((nar .byte p3.toInt8.toInt32))) &&& (255 : Int32)))] [(.int (own_ref (own_pick ((off + (1 : Int32))) (p1) (p2) (p3)))), (.int ((own_el (off + (1 : Int32)) ((nar .byte p1.toInt8.toInt32)) ((nar .byte p2.toInt8.toInt32)) ((nar .byte p3.toInt8.toInt32))) &&& (255 : Int32)))])) _
          exact kk
        by_cases hc180_86 : ((own_el (off + (1 : Int32)) ((nar .byte p1.toInt8.toInt32)) ((nar .byte p2.toInt8.toInt32)) ((nar .byte p3.toInt8.toInt32))) &&& (255 : Int32)) = (own_ref (own_pick ((off + (1 : Int32))) (p1) (p2) (p3)))
        · skip
          refine ⟨T84, _, X84, N84, hh84, fun tgt kk => ?_⟩
          have kq88 : ((.int (bI (((((¬ (off = (3 : Int32))) ∧ (((own_el off ((nar .byte p1.toInt8.toInt32)) ((nar .byte p2.toInt8.toInt32)) ((nar .byte p3.toInt8.toInt32))) &&& (255 : Int32)) = (own_ref (own_pick (off) (p1) (p2) (p3))))) ∧ (¬ (((own_el off ((nar .byte p1.toInt8.toInt32)) ((nar .byte p2.toInt8.toInt32)) ((nar .byte p3.toInt8.toInt32))) &&& (255 : Int32)) < (0 : Int32)) ∧ (¬ ((255 : Int32) < ((own_el off ((nar .byte p1.toInt8.toInt32)) ((nar .byte p2.toInt8.toInt32)) ((nar .byte p3.toInt8.toInt32))) &&& (255 : Int32)))))) ∧ (((off + (1 : Int32)) = (3 : Int32)) ↔ (off = (2 : Int32)))) ∧ (((own_el (off + (1 : Int32)) ((nar .byte p1.toInt8.toInt32)) ((nar .byte p2.toInt8.toInt32)) ((nar .byte p3.toInt8.toInt32))) &&& (255 : Int32)) = (own_ref (own_pick ((off + (1 : Int32))) (p1) (p2) (p3))))))) : Value) = (.int (1 : Int32)) := ((congrArg Value.int (bI_iff (and_iff_right hc162_80))).trans (congrArg Value.int (bI_t hc180_86)))
          rw [kq88] at kk
          refine pre85 tgt ?_
          refine XS.icmpNo X84.here hx rfl (hb hby at_180) rfl (XT.ii_ne_f hc180_86) ?_
          show Steps p.tables e below (T84.setTop (mkF m 183 #[.val (.int p1), .val (.int p2), .val (.int p3), .val (.int p4), .val (.ref b2), .val (.int off), .val (.ref b20), .val (.int (bI ((((¬ (off = (3 : Int32))) ∧ (((own_el off ((nar .byte p1.toInt8.toInt32)) ((nar .byte p2.toInt8.toInt32)) ((nar .byte p3.toInt8.toInt32))) &&& (255 : Int32)) = (own_ref (own_pick (off) (p1) (p2) (p3))))) ∧ (¬ (((own_el off ((nar .byte p1.toInt8.toInt32)) ((nar .byte p2.toInt8.toInt32)) ((nar .byte p3.toInt8.toInt32))) &&& (255 : Int32)) < (0 : Int32)) ∧ (¬ ((255 : Int32) < ((own_el off ((nar .byte p1.toInt8.toInt32)) ((nar .byte p2.toInt8.toInt32)) ((nar .byte p3.toInt8.toInt32))) &&& (255 : Int32)))))) ∧ (((off + (1 : Int32)) = (3 : Int32)) ↔ (off = (2 : Int32)))))), .val (.int ((own_el off ((nar .byte p1.toInt8.toInt32)) ((nar .byte p2.toInt8.toInt32)) ((nar .byte p3.toInt8.toInt32))) &&& (255 : Int32))), .val (.int ((own_el (off + (1 : Int32)) ((nar .byte p1.toInt8.toInt32)) ((nar .byte p2.toInt8.toInt32)) ((nar .byte p3.toInt8.toInt32))) &&& (255 : Int32)))] [])) _
          refine XS.iconst X84.here hx rfl (hb hby at_183) ?_
          show Steps p.tables e below (T84.setTop (mkF m 184 #[.val (.int p1), .val (.int p2), .val (.int p3), .val (.int p4), .val (.ref b2), .val (.int off), .val (.ref b20), .val (.int (bI ((((¬ (off = (3 : Int32))) ∧ (((own_el off ((nar .byte p1.toInt8.toInt32)) ((nar .byte p2.toInt8.toInt32)) ((nar .byte p3.toInt8.toInt32))) &&& (255 : Int32)) = (own_ref (own_pick (off) (p1) (p2) (p3))))) ∧ (¬ (((own_el off ((nar .byte p1.toInt8.toInt32)) ((nar .byte p2.toInt8.toInt32)) ((nar .byte p3.toInt8.toInt32))) &&& (255 : Int32)) < (0 : Int32)) ∧ (¬ ((255 : Int32) < ((own_el off ((nar .byte p1.toInt8.toInt32)) ((nar .byte p2.toInt8.toInt32)) ((nar .byte p3.toInt8.toInt32))) &&& (255 : Int32)))))) ∧ (((off + (1 : Int32)) = (3 : Int32)) ↔ (off = (2 : Int32)))))), .val (.int ((own_el off ((nar .byte p1.toInt8.toInt32)) ((nar .byte p2.toInt8.toInt32)) ((nar .byte p3.toInt8.toInt32))) &&& (255 : Int32))), .val (.int ((own_el (off + (1 : Int32)) ((nar .byte p1.toInt8.toInt32)) ((nar .byte p2.toInt8.toInt32)) ((nar .byte p3.toInt8.toInt32))) &&& (255 : Int32)))] [(.int (1 : Int32))])) _
          refine XS.goto X84.here hx rfl (pc0 := 184) (pc' := 188) rfl (hb hby at_184) (by decide) (by decide) ?_
          show Steps p.tables e below (T84.setTop (mkF m 188 #[.val (.int p1), .val (.int p2), .val (.int p3), .val (.int p4), .val (.ref b2), .val (.int off), .val (.ref b20), .val (.int (bI ((((¬ (off = (3 : Int32))) ∧ (((own_el off ((nar .byte p1.toInt8.toInt32)) ((nar .byte p2.toInt8.toInt32)) ((nar .byte p3.toInt8.toInt32))) &&& (255 : Int32)) = (own_ref (own_pick (off) (p1) (p2) (p3))))) ∧ (¬ (((own_el off ((nar .byte p1.toInt8.toInt32)) ((nar .byte p2.toInt8.toInt32)) ((nar .byte p3.toInt8.toInt32))) &&& (255 : Int32)) < (0 : Int32)) ∧ (¬ ((255 : Int32) < ((own_el off ((nar .byte p1.toInt8.toInt32)) ((nar .byte p2.toInt8.toInt32)) ((nar .byte p3.toInt8.toInt32))) &&& (255 : Int32)))))) ∧ (((off + (1 : Int32)) = (3 : Int32)) ↔ (off = (2 : Int32)))))), .val (.int ((own_el off ((nar .byte p1.toInt8.toInt32)) ((nar .byte p2.toInt8.toInt32)) ((nar .byte p3.toInt8.toInt32))) &&& (255 : Int32))), .val (.int ((own_el (off + (1 : Int32)) ((nar .byte p1.toInt8.toInt32)) ((nar .byte p2.toInt8.toInt32)) ((nar .byte p3.toInt8.toInt32))) &&& (255 : Int32)))] [(.int (1 : Int32))])) _
          exact kk
        · skip
          refine ⟨T84, _, X84, N84, hh84, fun tgt kk => ?_⟩
          have kq89 : ((.int (bI (((((¬ (off = (3 : Int32))) ∧ (((own_el off ((nar .byte p1.toInt8.toInt32)) ((nar .byte p2.toInt8.toInt32)) ((nar .byte p3.toInt8.toInt32))) &&& (255 : Int32)) = (own_ref (own_pick (off) (p1) (p2) (p3))))) ∧ (¬ (((own_el off ((nar .byte p1.toInt8.toInt32)) ((nar .byte p2.toInt8.toInt32)) ((nar .byte p3.toInt8.toInt32))) &&& (255 : Int32)) < (0 : Int32)) ∧ (¬ ((255 : Int32) < ((own_el off ((nar .byte p1.toInt8.toInt32)) ((nar .byte p2.toInt8.toInt32)) ((nar .byte p3.toInt8.toInt32))) &&& (255 : Int32)))))) ∧ (((off + (1 : Int32)) = (3 : Int32)) ↔ (off = (2 : Int32)))) ∧ (((own_el (off + (1 : Int32)) ((nar .byte p1.toInt8.toInt32)) ((nar .byte p2.toInt8.toInt32)) ((nar .byte p3.toInt8.toInt32))) &&& (255 : Int32)) = (own_ref (own_pick ((off + (1 : Int32))) (p1) (p2) (p3))))))) : Value) = (.int (0 : Int32)) := ((congrArg Value.int (bI_iff (and_iff_right hc162_80))).trans (congrArg Value.int (bI_f hc180_86)))
          rw [kq89] at kk
          refine pre85 tgt ?_
          refine XS.icmpYes X84.here hx rfl (pc0 := 180) (pc' := 187) rfl (hb hby at_180) rfl (XT.ii_ne_t hc180_86) (by decide) (by decide) ?_
          show Steps p.tables e below (T84.setTop (mkF m 187 #[.val (.int p1), .val (.int p2), .val (.int p3), .val (.int p4), .val (.ref b2), .val (.int off), .val (.ref b20), .val (.int (bI ((((¬ (off = (3 : Int32))) ∧ (((own_el off ((nar .byte p1.toInt8.toInt32)) ((nar .byte p2.toInt8.toInt32)) ((nar .byte p3.toInt8.toInt32))) &&& (255 : Int32)) = (own_ref (own_pick (off) (p1) (p2) (p3))))) ∧ (¬ (((own_el off ((nar .byte p1.toInt8.toInt32)) ((nar .byte p2.toInt8.toInt32)) ((nar .byte p3.toInt8.toInt32))) &&& (255 : Int32)) < (0 : Int32)) ∧ (¬ ((255 : Int32) < ((own_el off ((nar .byte p1.toInt8.toInt32)) ((nar .byte p2.toInt8.toInt32)) ((nar .byte p3.toInt8.toInt32))) &&& (255 : Int32)))))) ∧ (((off + (1 : Int32)) = (3 : Int32)) ↔ (off = (2 : Int32)))))), .val (.int ((own_el off ((nar .byte p1.toInt8.toInt32)) ((nar .byte p2.toInt8.toInt32)) ((nar .byte p3.toInt8.toInt32))) &&& (255 : Int32))), .val (.int ((own_el (off + (1 : Int32)) ((nar .byte p1.toInt8.toInt32)) ((nar .byte p2.toInt8.toInt32)) ((nar .byte p3.toInt8.toInt32))) &&& (255 : Int32)))] [])) _
          refine XS.iconst X84.here hx rfl (hb hby at_187) ?_
          show Steps p.tables e below (T84.setTop (mkF m 188 #[.val (.int p1), .val (.int p2), .val (.int p3), .val (.int p4), .val (.ref b2), .val (.int off), .val (.ref b20), .val (.int (bI ((((¬ (off = (3 : Int32))) ∧ (((own_el off ((nar .byte p1.toInt8.toInt32)) ((nar .byte p2.toInt8.toInt32)) ((nar .byte p3.toInt8.toInt32))) &&& (255 : Int32)) = (own_ref (own_pick (off) (p1) (p2) (p3))))) ∧ (¬ (((own_el off ((nar .byte p1.toInt8.toInt32)) ((nar .byte p2.toInt8.toInt32)) ((nar .byte p3.toInt8.toInt32))) &&& (255 : Int32)) < (0 : Int32)) ∧ (¬ ((255 : Int32) < ((own_el off ((nar .byte p1.toInt8.toInt32)) ((nar .byte p2.toInt8.toInt32)) ((nar .byte p3.toInt8.toInt32))) &&& (255 : Int32)))))) ∧ (((off + (1 : Int32)) = (3 : Int32)) ↔ (off = (2 : Int32)))))), .val (.int ((own_el off ((nar .byte p1.toInt8.toInt32)) ((nar .byte p2.toInt8.toInt32)) ((nar .byte p3.toInt8.toInt32))) &&& (255 : Int32))), .val (.int ((own_el (off + (1 : Int32)) ((nar .byte p1.toInt8.toInt32)) ((nar .byte p2.toInt8.toInt32)) ((nar .byte p3.toInt8.toInt32))) &&& (255 : Int32)))] [(.int (0 : Int32))])) _
          exact kk
      · skip
        refine ⟨T77, _, X77, N77, rfl, fun tgt kk => ?_⟩
        have kq90 : ((.int (bI (((((¬ (off = (3 : Int32))) ∧ (((own_el off ((nar .byte p1.toInt8.toInt32)) ((nar .byte p2.toInt8.toInt32)) ((nar .byte p3.toInt8.toInt32))) &&& (255 : Int32)) = (own_ref (own_pick (off) (p1) (p2) (p3))))) ∧ (¬ (((own_el off ((nar .byte p1.toInt8.toInt32)) ((nar .byte p2.toInt8.toInt32)) ((nar .byte p3.toInt8.toInt32))) &&& (255 : Int32)) < (0 : Int32)) ∧ (¬ ((255 : Int32) < ((own_el off ((nar .byte p1.toInt8.toInt32)) ((nar .byte p2.toInt8.toInt32)) ((nar .byte p3.toInt8.toInt32))) &&& (255 : Int32)))))) ∧ (((off + (1 : Int32)) = (3 : Int32)) ↔ (off = (2 : Int32)))) ∧ (((own_el (off + (1 : Int32)) ((nar .byte p1.toInt8.toInt32)) ((nar .byte p2.toInt8.toInt32)) ((nar .byte p3.toInt8.toInt32))) &&& (255 : Int32)) = (own_ref (own_pick ((off + (1 : Int32))) (p1) (p2) (p3))))))) : Value) = (.int (0 : Int32)) := (congrArg Value.int (bI_f (fun q => hc162_80 q.1)))
        rw [kq90] at kk
        refine pre79 tgt ?_
        refine XS.ifYes X77.here hx rfl (pc0 := 162) (pc' := 187) rfl (hb hby at_162) rfl (bB_eq_t hc162_80) (by decide) (by decide) ?_
        show Steps p.tables e below (T77.setTop (mkF m 187 #[.val (.int p1), .val (.int p2), .val (.int p3), .val (.int p4), .val (.ref b2), .val (.int off), .val (.ref b20), .val (.int (bI ((((¬ (off = (3 : Int32))) ∧ (((own_el off ((nar .byte p1.toInt8.toInt32)) ((nar .byte p2.toInt8.toInt32)) ((nar .byte p3.toInt8.toInt32))) &&& (255 : Int32)) = (own_ref (own_pick (off) (p1) (p2) (p3))))) ∧ (¬ (((own_el off ((nar .byte p1.toInt8.toInt32)) ((nar .byte p2.toInt8.toInt32)) ((nar .byte p3.toInt8.toInt32))) &&& (255 : Int32)) < (0 : Int32)) ∧ (¬ ((255 : Int32) < ((own_el off ((nar .byte p1.toInt8.toInt32)) ((nar .byte p2.toInt8.toInt32)) ((nar .byte p3.toInt8.toInt32))) &&& (255 : Int32)))))) ∧ (((off + (1 : Int32)) = (3 : Int32)) ↔ (off = (2 : Int32)))))), .val (.int ((own_el off ((nar .byte p1.toInt8.toInt32)) ((nar .byte p2.toInt8.toInt32)) ((nar .byte p3.toInt8.toInt32))) &&& (255 : Int32))), .val (.int ((own_el (off + (1 : Int32)) ((nar .byte p1.toInt8.toInt32)) ((nar .byte p2.toInt8.toInt32)) ((nar .byte p3.toInt8.toInt32))) &&& (255 : Int32)))] [])) _
        refine XS.iconst X77.here hx rfl (hb hby at_187) ?_
        show Steps p.tables e below (T77.setTop (mkF m 188 #[.val (.int p1), .val (.int p2), .val (.int p3), .val (.int p4), .val (.ref b2), .val (.int off), .val (.ref b20), .val (.int (bI ((((¬ (off = (3 : Int32))) ∧ (((own_el off ((nar .byte p1.toInt8.toInt32)) ((nar .byte p2.toInt8.toInt32)) ((nar .byte p3.toInt8.toInt32))) &&& (255 : Int32)) = (own_ref (own_pick (off) (p1) (p2) (p3))))) ∧ (¬ (((own_el off ((nar .byte p1.toInt8.toInt32)) ((nar .byte p2.toInt8.toInt32)) ((nar .byte p3.toInt8.toInt32))) &&& (255 : Int32)) < (0 : Int32)) ∧ (¬ ((255 : Int32) < ((own_el off ((nar .byte p1.toInt8.toInt32)) ((nar .byte p2.toInt8.toInt32)) ((nar .byte p3.toInt8.toInt32))) &&& (255 : Int32)))))) ∧ (((off + (1 : Int32)) = (3 : Int32)) ↔ (off = (2 : Int32)))))), .val (.int ((own_el off ((nar .byte p1.toInt8.toInt32)) ((nar .byte p2.toInt8.toInt32)) ((nar .byte p3.toInt8.toInt32))) &&& (255 : Int32))), .val (.int ((own_el (off + (1 : Int32)) ((nar .byte p1.toInt8.toInt32)) ((nar .byte p2.toInt8.toInt32)) ((nar .byte p3.toInt8.toInt32))) &&& (255 : Int32)))] [(.int (0 : Int32))])) _
        exact kk
    have pre91 : ∀ tgt, Steps p.tables e below (T87.setTop (mkF m 192 #[.val (.int p1), .val (.int p2), .val (.int p3), .val (.int p4), .val (.ref b2), .val (.int off), .val (.ref b20), .val (.int (bI (((((¬ (off = (3 : Int32))) ∧ (((own_el off ((nar .byte p1.toInt8.toInt32)) ((nar .byte p2.toInt8.toInt32)) ((nar .byte p3.toInt8.toInt32))) &&& (255 : Int32)) = (own_ref (own_pick (off) (p1) (p2) (p3))))) ∧ (¬ (((own_el off ((nar .byte p1.toInt8.toInt32)) ((nar .byte p2.toInt8.toInt32)) ((nar .byte p3.toInt8.toInt32))) &&& (255 : Int32)) < (0 : Int32)) ∧ (¬ ((255 : Int32) < ((own_el off ((nar .byte p1.toInt8.toInt32)) ((nar .byte p2.toInt8.toInt32)) ((nar .byte p3.toInt8.toInt32))) &&& (255 : Int32)))))) ∧ (((off + (1 : Int32)) = (3 : Int32)) ↔ (off = (2 : Int32)))) ∧ (((own_el (off + (1 : Int32)) ((nar .byte p1.toInt8.toInt32)) ((nar .byte p2.toInt8.toInt32)) ((nar .byte p3.toInt8.toInt32))) &&& (255 : Int32)) = (own_ref (own_pick ((off + (1 : Int32))) (p1) (p2) (p3))))))), .val (.int ((own_el off ((nar .byte p1.toInt8.toInt32)) ((nar .byte p2.toInt8.toInt32)) ((nar .byte p3.toInt8.toInt32))) &&& (255 : Int32))), .val (.int ((own_el (off + (1 : Int32)) ((nar .byte p1.toInt8.toInt32)) ((nar .byte p2.toInt8.toInt32)) ((nar .byte p3.toInt8.toInt32))) &&& (255 : Int32)))] [(.int (bI (((((¬ (off = (3 : Int32))) ∧ (((own_el off ((nar .byte p1.toInt8.toInt32)) ((nar .byte p2.toInt8.toInt32)) ((nar .byte p3.toInt8.toInt32))) &&& (255 : Int32)) = (own_ref (own_pick (off) (p1) (p2) (p3))))) ∧ (¬ (((own_el off ((nar .byte p1.toInt8.toInt32)) ((nar .byte p2.toInt8.toInt32)) ((nar .byte p3.toInt8.toInt32))) &&& (255 : Int32)) < (0 : Int32)) ∧ (¬ ((255 : Int32) < ((own_el off ((nar .byte p1.toInt8.toInt32)) ((nar .byte p2.toInt8.toInt32)) ((nar .byte p3.toInt8.toInt32))) &&& (255 : Int32)))))) ∧ (((off + (1 : Int32)) = (3 : Int32)) ↔ (off = (2 : Int32)))) ∧ (((own_el (off + (1 : Int32)) ((nar .byte p1.toInt8.toInt32)) ((nar .byte p2.toInt8.toInt32)) ((nar .byte p3.toInt8.toInt32))) &&& (255 : Int32)) = (own_ref (own_pick ((off + (1 : Int32))) (p1) (p2) (p3)))))))])) tgt → Steps p.tables e below (s₁.setTop (entryFrame m #[(.int p1), (.int p2), (.int p3), (.int p4)] maxLocals)) tgt := by
      intro tgt kk
      refine pre87 tgt ?_
      refine XS.istore X87.here hx rfl (hb hby at_188) rfl (l' := #[.val (.int p1), .val (.int p2), .val (.int p3), .val (.int p4), .val (.ref b2), .val (.int off), .val (.ref b20), .val (.int (bI (((((¬ (off = (3 : Int32))) ∧ (((own_el off ((nar .byte p1.toInt8.toInt32)) ((nar .byte p2.toInt8.toInt32)) ((nar .byte p3.toInt8.toInt32))) &&& (255 : Int32)) = (own_ref (own_pick (off) (p1) (p2) (p3))))) ∧ (¬ (((own_el off ((nar .byte p1.toInt8.toInt32)) ((nar .byte p2.toInt8.toInt32)) ((nar .byte p3.toInt8.toInt32))) &&& (255 : Int32)) < (0 : Int32)) ∧ (¬ ((255 : Int32) < ((own_el off ((nar .byte p1.toInt8.toInt32)) ((nar .byte p2.toInt8.toInt32)) ((nar .byte p3.toInt8.toInt32))) &&& (255 : Int32)))))) ∧ (((off + (1 : Int32)) = (3 : Int32)) ↔ (off = (2 : Int32)))) ∧ (((own_el (off + (1 : Int32)) ((nar .byte p1.toInt8.toInt32)) ((nar .byte p2.toInt8.toInt32)) ((nar .byte p3.toInt8.toInt32))) &&& (255 : Int32)) = (own_ref (own_pick ((off + (1 : Int32))) (p1) (p2) (p3))))))), .val (.int ((own_el off ((nar .byte p1.toInt8.toInt32)) ((nar .byte p2.toInt8.toInt32)) ((nar .byte p3.toInt8.toInt32))) &&& (255 : Int32))), .val (.int ((own_el (off + (1 : Int32)) ((nar .byte p1.toInt8.toInt32)) ((nar .byte p2.toInt8.toInt32)) ((nar .byte p3.toInt8.toInt32))) &&& (255 : Int32)))]) rfl ?_
      show Steps p.tables e below (T87.setTop (mkF m 190 #[.val (.int p1), .val (.int p2), .val (.int p3), .val (.int p4), .val (.ref b2), .val (.int off), .val (.ref b20), .val (.int (bI (((((¬ (off = (3 : Int32))) ∧ (((own_el off ((nar .byte p1.toInt8.toInt32)) ((nar .byte p2.toInt8.toInt32)) ((nar .byte p3.toInt8.toInt32))) &&& (255 : Int32)) = (own_ref (own_pick (off) (p1) (p2) (p3))))) ∧ (¬ (((own_el off ((nar .byte p1.toInt8.toInt32)) ((nar .byte p2.toInt8.toInt32)) ((nar .byte p3.toInt8.toInt32))) &&& (255 : Int32)) < (0 : Int32)) ∧ (¬ ((255 : Int32) < ((own_el off ((nar .byte p1.toInt8.toInt32)) ((nar .byte p2.toInt8.toInt32)) ((nar .byte p3.toInt8.toInt32))) &&& (255 : Int32)))))) ∧ (((off + (1 : Int32)) = (3 : Int32)) ↔ (off = (2 : Int32)))) ∧ (((own_el (off + (1 : Int32)) ((nar .byte p1.toInt8.toInt32)) ((nar .byte p2.toInt8.toInt32)) ((nar .byte p3.toInt8.toInt32))) &&& (255 : Int32)) = (own_ref (own_pick ((off + (1 : Int32))) (p1) (p2) (p3))))))), .val (.int ((own_el off ((nar .byte p1.toInt8.toInt32)) ((nar .byte p2.toInt8.toInt32)) ((nar .byte p3.toInt8.toInt32))) &&& (255 : Int32))), .val (.int ((own_el (off + (1 : Int32)) ((nar .byte p1.toInt8.toInt32)) ((nar .byte p2.toInt8.toInt32)) ((nar .byte p3.toInt8.toInt32))) &&& (255 : Int32)))] [])) _
      refine XS.iload X87.here hx rfl (hb hby at_190) rfl ?_
      show Steps p.tables e below (T87.setTop (mkF m 192 #[.val (.int p1), .val (.int p2), .val (.int p3), .val (.int p4), .val (.ref b2), .val (.int off), .val (.ref b20), .val (.int (bI (((((¬ (off = (3 : Int32))) ∧ (((own_el off ((nar .byte p1.toInt8.toInt32)) ((nar .byte p2.toInt8.toInt32)) ((nar .byte p3.toInt8.toInt32))) &&& (255 : Int32)) = (own_ref (own_pick (off) (p1) (p2) (p3))))) ∧ (¬ (((own_el off ((nar .byte p1.toInt8.toInt32)) ((nar .byte p2.toInt8.toInt32)) ((nar .byte p3.toInt8.toInt32))) &&& (255 : Int32)) < (0 : Int32)) ∧ (¬ ((255 : Int32) < ((own_el off ((nar .byte p1.toInt8.toInt32)) ((nar .byte p2.toInt8.toInt32)) ((nar .byte p3.toInt8.toInt32))) &&& (255 : Int32)))))) ∧ (((off + (1 : Int32)) = (3 : Int32)) ↔ (off = (2 : Int32)))) ∧ (((own_el (off + (1 : Int32)) ((nar .byte p1.toInt8.toInt32)) ((nar .byte p2.toInt8.toInt32)) ((nar .byte p3.toInt8.toInt32))) &&& (255 : Int32)) = (own_ref (own_pick ((off + (1 : Int32))) (p1) (p2) (p3))))))), .val (.int ((own_el off ((nar .byte p1.toInt8.toInt32)) ((nar .byte p2.toInt8.toInt32)) ((nar .byte p3.toInt8.toInt32))) &&& (255 : Int32))), .val (.int ((own_el (off + (1 : Int32)) ((nar .byte p1.toInt8.toInt32)) ((nar .byte p2.toInt8.toInt32)) ((nar .byte p3.toInt8.toInt32))) &&& (255 : Int32)))] [(.int (bI (((((¬ (off = (3 : Int32))) ∧ (((own_el off ((nar .byte p1.toInt8.toInt32)) ((nar .byte p2.toInt8.toInt32)) ((nar .byte p3.toInt8.toInt32))) &&& (255 : Int32)) = (own_ref (own_pick (off) (p1) (p2) (p3))))) ∧ (¬ (((own_el off ((nar .byte p1.toInt8.toInt32)) ((nar .byte p2.toInt8.toInt32)) ((nar .byte p3.toInt8.toInt32))) &&& (255 : Int32)) < (0 : Int32)) ∧ (¬ ((255 : Int32) < ((own_el off ((nar .byte p1.toInt8.toInt32)) ((nar .byte p2.toInt8.toInt32)) ((nar .byte p3.toInt8.toInt32))) &&& (255 : Int32)))))) ∧ (((off + (1 : Int32)) = (3 : Int32)) ↔ (off = (2 : Int32)))) ∧ (((own_el (off + (1 : Int32)) ((nar .byte p1.toInt8.toInt32)) ((nar .byte p2.toInt8.toInt32)) ((nar .byte p3.toInt8.toInt32))) &&& (255 : Int32)) = (own_ref (own_pick ((off + (1 : Int32))) (p1) (p2) (p3)))))))])) _
      exact kk
    obtain ⟨T101, lo101, X101, N101, e101, pre101⟩ : ∃ (T' : State) (lo : List Loc), Stand p l e room_1 s m #[(.int p1), (.int p2), (.int p3), (.int p4)] below meth c T' lo 2 5 ∧ Fr n0 lo ∧ T'.heap = T77.heap ∧ ∀ tgt, Steps p.tables e below (T'.setTop (mkF m 221 #[.val (.int p1), .val (.int p2), .val (.int p3), .val (.int p4), .val (.ref b2), .val (.int off), .val (.ref b20), .val (.int (bI (((((¬ (off = (3 : Int32))) ∧ (((own_el off ((nar .byte p1.toInt8.toInt32)) ((nar .byte p2.toInt8.toInt32)) ((nar .byte p3.toInt8.toInt32))) &&& (255 : Int32)) = (own_ref (own_pick (off) (p1) (p2) (p3))))) ∧ (¬ (((own_el off ((nar .byte p1.toInt8.toInt32)) ((nar .byte p2.toInt8.toInt32)) ((nar .byte p3.toInt8.toInt32))) &&& (255 : Int32)) < (0 : Int32)) ∧ (¬ ((255 : Int32) < ((own_el off ((nar .byte p1.toInt8.toInt32)) ((nar .byte p2.toInt8.toInt32)) ((nar .byte p3.toInt8.toInt32))) &&& (255 : Int32)))))) ∧ (((off + (1 : Int32)) = (3 : Int32)) ↔ (off = (2 : Int32)))) ∧ (((own_el (off + (1 : Int32)) ((nar .byte p1.toInt8.toInt32)) ((nar .byte p2.toInt8.toInt32)) ((nar .byte p3.toInt8.toInt32))) &&& (255 : Int32)) = (own_ref (own_pick ((off + (1 : Int32))) (p1) (p2) (p3))))))), .val (.int ((own_el off ((nar .byte p1.toInt8.toInt32)) ((nar .byte p2.toInt8.toInt32)) ((nar .byte p3.toInt8.toInt32))) &&& (255 : Int32))), .val (.int ((own_el (off + (1 : Int32)) ((nar .byte p1.toInt8.toInt32)) ((nar .byte p2.toInt8.toInt32)) ((nar .byte p3.toInt8.toInt32))) &&& (255 : Int32)))] [(.int (bI ((((((¬ (off = (3 : Int32))) ∧ (((own_el off ((nar .byte p1.toInt8.toInt32)) ((nar .byte p2.toInt8.toInt32)) ((nar .byte p3.toInt8.toInt32))) &&& (255 : Int32)) = (own_ref (own_pick (off) (p1) (p2) (p3))))) ∧ (¬ (((own_el off ((nar .byte p1.toInt8.toInt32)) ((nar .byte p2.toInt8.toInt32)) ((nar .byte p3.toInt8.toInt32))) &&& (255 : Int32)) < (0 : Int32)) ∧ (¬ ((255 : Int32) < ((own_el off ((nar .byte p1.toInt8.toInt32)) ((nar .byte p2.toInt8.toInt32)) ((nar .byte p3.toInt8.toInt32))) &&& (255 : Int32)))))) ∧ (((off + (1 : Int32)) = (3 : Int32)) ↔ (off = (2 : Int32)))) ∧ (((own_el (off + (1 : Int32)) ((nar .byte p1.toInt8.toInt32)) ((nar .byte p2.toInt8.toInt32)) ((nar .byte p3.toInt8.toInt32))) &&& (255 : Int32)) = (own_ref (own_pick ((off + (1 : Int32))) (p1) (p2) (p3))))) ∧ ((((off + (1 : Int32)) + (1 : Int32)) = (3 : Int32)) ↔ ((off + (1 : Int32)) = (2 : Int32))))))])) tgt → Steps p.tables e below (s₁.setTop (entryFrame m #[(.int p1), (.int p2), (.int p3), (.int p4)] maxLocals)) tgt := by
      by_cases hc192_92 : ((((¬ (off = (3 : Int32))) ∧ (((own_el off ((nar .byte p1.toInt8.toInt32)) ((nar .byte p2.toInt8.toInt32)) ((nar .byte p3.toInt8.toInt32))) &&& (255 : Int32)) = (own_ref (own_pick (off) (p1) (p2) (p3))))) ∧ (¬ (((own_el off ((nar .byte p1.toInt8.toInt32)) ((nar .byte p2.toInt8.toInt32)) ((nar .byte p3.toInt8.toInt32))) &&& (255 : Int32)) < (0 : Int32)) ∧ (¬ ((255 : Int32) < ((own_el off ((nar .byte p1.toInt8.toInt32)) ((nar .byte p2.toInt8.toInt32)) ((nar .byte p3.toInt8.toInt32))) &&& (255 : Int32)))))) ∧ (((off + (1 : Int32)) = (3 : Int32)) ↔ (off = (2 : Int32)))) ∧ (((own_el (off + (1 : Int32)) ((nar .byte p1.toInt8.toInt32)) ((nar .byte p2.toInt8.toInt32)) ((nar .byte p3.toInt8.toInt32))) &&& (255 : Int32)) = (own_ref (own_pick ((off + (1 : Int32))) (p1) (p2) (p3))))
      · skip
        have pre93 : ∀ tgt, Steps p.tables e below (T87.setTop (mkF m 197 #[.val (.int p1), .val (.int p2), .val (.int p3), .val (.int p4), .val (.ref b2), .val (.int off), .val (.ref b20), .val (.int (bI (((((¬ (off = (3 : Int32))) ∧ (((own_el off ((nar .byte p1.toInt8.toInt32)) ((nar .byte p2.toInt8.toInt32)) ((nar .byte p3.toInt8.toInt32))) &&& (255 : Int32)) = (own_ref (own_pick (off) (p1) (p2) (p3))))) ∧ (¬ (((own_el off ((nar .byte p1.toInt8.toInt32)) ((nar .byte p2.toInt8.toInt32)) ((nar .byte p3.toInt8.toInt32))) &&& (255 : Int32)) < (0 : Int32)) ∧ (¬ ((255 : Int32) < ((own_el off ((nar .byte p1.toInt8.toInt32)) ((nar .byte p2.toInt8.toInt32)) ((nar .byte p3.toInt8.toInt32))) &&& (255 : Int32)))))) ∧ (((off + (1 : Int32)) = (3 : Int32)) ↔ (off = (2 : Int32)))) ∧ (((own_el (off + (1 : Int32)) ((nar .byte p1.toInt8.toInt32)) ((nar .byte p2.toInt8.toInt32)) ((nar .byte p3.toInt8.toInt32))) &&& (255 : Int32)) = (own_ref (own_pick ((off + (1 : Int32))) (p1) (p2) (p3))))))), .val (.int ((own_el off ((nar .byte p1.toInt8.toInt32)) ((nar .byte p2.toInt8.toInt32)) ((nar .byte p3.toInt8.toInt32))) &&& (255 : Int32))), .val (.int ((own_el (off + (1 : Int32)) ((nar .byte p1.toInt8.toInt32)) ((nar .byte p2.toInt8.toInt32)) ((nar .byte p3.toInt8.toInt32))) &&& (255 : Int32)))] [(.ref b20)])) tgt → Steps p.tables e below (s₁.setTop (entryFrame m #[(.int p1), (.int p2), (.int p3), (.int p4)] maxLocals)) tgt := by
          intro tgt kk
          refine pre91 tgt ?_
          refine XS.ifNo X87.here hx rfl (hb hby at_192) rfl (bB_eq_f hc192_92) ?_
          show Steps p.tables e below (T87.setTop (mkF m 195 #[.val (.int p1), .val (.int p2), .val (.int p3), .val (.int p4), .val (.ref b2), .val (.int off), .val (.ref b20), .val (.int (bI (((((¬ (off = (3 : Int32))) ∧ (((own_el off ((nar .byte p1.toInt8.toInt32)) ((nar .byte p2.toInt8.toInt32)) ((nar .byte p3.toInt8.toInt32))) &&& (255 : Int32)) = (own_ref (own_pick (off) (p1) (p2) (p3))))) ∧ (¬ (((own_el off ((nar .byte p1.toInt8.toInt32)) ((nar .byte p2.toInt8.toInt32)) ((nar .byte p3.toInt8.toInt32))) &&& (255 : Int32)) < (0 : Int32)) ∧ (¬ ((255 : Int32) < ((own_el off ((nar .byte p1.toInt8.toInt32)) ((nar .byte p2.toInt8.toInt32)) ((nar .byte p3.toInt8.toInt32))) &&& (255 : Int32)))))) ∧ (((off + (1 : Int32)) = (3 : Int32)) ↔ (off = (2 : Int32)))) ∧ (((own_el (off + (1 : Int32)) ((nar .byte p1.toInt8.toInt32)) ((nar .byte p2.toInt8.toInt32)) ((nar .byte p3.toInt8.toInt32))) &&& (255 : Int32)) = (own_ref (own_pick ((off + (1 : Int32))) (p1) (p2) (p3))))))), .val (.int ((own_el off ((nar .byte p1.toInt8.toInt32)) ((nar .byte p2.toInt8.toInt32)) ((nar .byte p3.toInt8.toInt32))) &&& (255 : Int32))), .val (.int ((own_el (off + (1 : Int32)) ((nar .byte p1.toInt8.toInt32)) ((nar .byte p2.toInt8.toInt32)) ((nar .byte p3.toInt8.toInt32))) &&& (255 : Int32)))] [])) _
          refine XS.aload X87.here hx rfl (hb hby at_195) rfl rfl ?_
          show Steps p.tables e below (T87.setTop (mkF m 197 #[.val (.int p1), .val (.int p2), .val (.int p3), .val (.int p4), .val (.ref b2), .val (.int off), .val (.ref b20), .val (.int (bI (((((¬ (off = (3 : Int32))) ∧ (((own_el off ((nar .byte p1.toInt8.toInt32)) ((nar .byte p2.toInt8.toInt32)) ((nar .byte p3.toInt8.toInt32))) &&& (255 : Int32)) = (own_ref (own_pick (off) (p1) (p2) (p3))))) ∧ (¬ (((own_el off ((nar .byte p1.toInt8.toInt32)) ((nar .byte p2.toInt8.toInt32)) ((nar .byte p3.toInt8.toInt32))) &&& (255 : Int32)) < (0 : Int32)) ∧ (¬ ((255 : Int32) < ((own_el off ((nar .byte p1.toInt8.toInt32)) ((nar .byte p2.toInt8.toInt32)) ((nar .byte p3.toInt8.toInt32))) &&& (255 : Int32)))))) ∧ (((off + (1 : Int32)) = (3 : Int32)) ↔ (off = (2 : Int32)))) ∧ (((own_el (off + (1 : Int32)) ((nar .byte p1.toInt8.toInt32)) ((nar .byte p2.toInt8.toInt32)) ((nar .byte p3.toInt8.toInt32))) &&& (255 : Int32)) = (own_ref (own_pick ((off + (1 : Int32))) (p1) (p2) (p3))))))), .val (.int ((own_el off ((nar .byte p1.toInt8.toInt32)) ((nar .byte p2.toInt8.toInt32)) ((nar .byte p3.toInt8.toInt32))) &&& (255 : Int32))), .val (.int ((own_el (off + (1 : Int32)) ((nar .byte p1.toInt8.toInt32)) ((nar .byte p2.toInt8.toInt32)) ((nar .byte p3.toInt8.toInt32))) &&& (255 : Int32)))] [(.ref b20)])) _
          exact kk
        obtain ⟨cq94, kq94, q94a, q94b, q94c⟩ := isOf hZ e87 E_b20
        obtain ⟨_, _, ⟨T94, L94, k94, n94⟩, -, X94, ⟨Lc94, hQ94, l94, y94, z94⟩, st94⟩ := X87.virtualBack hx (y := (⟨"com/example/fir/fir/core/Decoder", "atEnd", "()Z"⟩ : MethodName)) (z := (⟨"com/example/fir/fir/core/Decoder", "atEnd", "()Z"⟩ : MethodName)) hown (mvT hZ (hw _ (List.mem_of_getElem? (i := 15) rfl))) (mvT hZ (hw _ (List.mem_of_getElem? (i := 16) rfl))) (notFace_of_selects (args := #[]) (mvT hZ (hw _ (List.mem_of_getElem? (i := 18) rfl)))) (mvT hZ (hw _ (List.mem_of_getElem? (i := 18) rfl))) (mvT hZ (hw _ (List.mem_of_getElem? (i := 17) rfl))) (by decide) (backOf (W := 0) (rmA l Z a0 hw [] b20 b2 k2 (((off + (1 : Int32)) + (1 : Int32))) ((nar .byte p1.toInt8.toInt32)) ((nar .byte p2.toInt8.toInt32)) ((nar .byte p3.toInt8.toInt32)) T77.heap n0 Zs78 F_bytes_b20 F_offset_b20 V_b2) hZ (hw _ (List.mem_of_getElem? (i := 19) rfl)) (hw _ (List.mem_of_getElem? (i := 4) rfl)) (by decide) (by decide)) q94a q94c (g := (mkF m 197 #[.val (.int p1), .val (.int p2), .val (.int p3), .val (.int p4), .val (.ref b2), .val (.int off), .val (.ref b20), .val (.int (bI (((((¬ (off = (3 : Int32))) ∧ (((own_el off ((nar .byte p1.toInt8.toInt32)) ((nar .byte p2.toInt8.toInt32)) ((nar .byte p3.toInt8.toInt32))) &&& (255 : Int32)) = (own_ref (own_pick (off) (p1) (p2) (p3))))) ∧ (¬ (((own_el off ((nar .byte p1.toInt8.toInt32)) ((nar .byte p2.toInt8.toInt32)) ((nar .byte p3.toInt8.toInt32))) &&& (255 : Int32)) < (0 : Int32)) ∧ (¬ ((255 : Int32) < ((own_el off ((nar .byte p1.toInt8.toInt32)) ((nar .byte p2.toInt8.toInt32)) ((nar .byte p3.toInt8.toInt32))) &&& (255 : Int32)))))) ∧ (((off + (1 : Int32)) = (3 : Int32)) ↔ (off = (2 : Int32)))) ∧ (((own_el (off + (1 : Int32)) ((nar .byte p1.toInt8.toInt32)) ((nar .byte p2.toInt8.toInt32)) ((nar .byte p3.toInt8.toInt32))) &&& (255 : Int32)) = (own_ref (own_pick ((off + (1 : Int32))) (p1) (p2) (p3))))))), .val (.int ((own_el off ((nar .byte p1.toInt8.toInt32)) ((nar .byte p2.toInt8.toInt32)) ((nar .byte p3.toInt8.toInt32))) &&& (255 : Int32))), .val (.int ((own_el (off + (1 : Int32)) ((nar .byte p1.toInt8.toInt32)) ((nar .byte p2.toInt8.toInt32)) ((nar .byte p3.toInt8.toInt32))) &&& (255 : Int32)))] [(.ref b20)])) rfl (by rw [hml]; rfl) (Steps.refl _) (argsL := []) (rest := []) (lenOf pd___Z rfl) rfl (by show 2 * 0 + _ ≤ _; exact Nat.le_of_eq rfl) (hb hby at_197) (fun _ _ => ⟨rfl, e87, (by decide : 2 + 0 ≤ _), (by decide : 5 + 0 ≤ _)⟩)
        dsimp only [Pt.U, Pt.locs, Pt.cells, Pt.slots] at X94 l94 y94 z94 st94 hQ94
        subst l94 y94 z94
        obtain ⟨rfl, N94q, hh94⟩ := hQ94
        have N94 := Fr.app N87 N94q
        have pre95 : ∀ tgt, Steps p.tables e below (T94.setTop (mkF m 205 #[.val (.int p1), .val (.int p2), .val (.int p3), .val (.int p4), .val (.ref b2), .val (.int off), .val (.ref b20), .val (.int (bI (((((¬ (off = (3 : Int32))) ∧ (((own_el off ((nar .byte p1.toInt8.toInt32)) ((nar .byte p2.toInt8.toInt32)) ((nar .byte p3.toInt8.toInt32))) &&& (255 : Int32)) = (own_ref (own_pick (off) (p1) (p2) (p3))))) ∧ (¬ (((own_el off ((nar .byte p1.toInt8.toInt32)) ((nar .byte p2.toInt8.toInt32)) ((nar .byte p3.toInt8.toInt32))) &&& (255 : Int32)) < (0 : Int32)) ∧ (¬ ((255 : Int32) < ((own_el off ((nar .byte p1.toInt8.toInt32)) ((nar .byte p2.toInt8.toInt32)) ((nar .byte p3.toInt8.toInt32))) &&& (255 : Int32)))))) ∧ (((off + (1 : Int32)) = (3 : Int32)) ↔ (off = (2 : Int32)))) ∧ (((own_el (off + (1 : Int32)) ((nar .byte p1.toInt8.toInt32)) ((nar .byte p2.toInt8.toInt32)) ((nar .byte p3.toInt8.toInt32))) &&& (255 : Int32)) = (own_ref (own_pick ((off + (1 : Int32))) (p1) (p2) (p3))))))), .val (.int ((own_el off ((nar .byte p1.toInt8.toInt32)) ((nar .byte p2.toInt8.toInt32)) ((nar .byte p3.toInt8.toInt32))) &&& (255 : Int32))), .val (.int ((own_el (off + (1 : Int32)) ((nar .byte p1.toInt8.toInt32)) ((nar .byte p2.toInt8.toInt32)) ((nar .byte p3.toInt8.toInt32))) &&& (255 : Int32)))] [(.int (2 : Int32)), (.int (off + (1 : Int32))), (.int (bI (((off + (1 : Int32)) + (1 : Int32)) = (3 : Int32))))])) tgt → Steps p.tables e below (s₁.setTop (entryFrame m #[(.int p1), (.int p2), (.int p3), (.int p4)] maxLocals)) tgt := by
          intro tgt kk
          refine pre93 tgt ?_
          refine st94.trans ?_
          show Steps p.tables e below (T94.setTop (mkF m 200 #[.val (.int p1), .val (.int p2), .val (.int p3), .val (.int p4), .val (.ref b2), .val (.int off), .val (.ref b20), .val (.int (bI (((((¬ (off = (3 : Int32))) ∧ (((own_el off ((nar .byte p1.toInt8.toInt32)) ((nar .byte p2.toInt8.toInt32)) ((nar .byte p3.toInt8.toInt32))) &&& (255 : Int32)) = (own_ref (own_pick (off) (p1) (p2) (p3))))) ∧ (¬ (((own_el off ((nar .byte p1.toInt8.toInt32)) ((nar .byte p2.toInt8.toInt32)) ((nar .byte p3.toInt8.toInt32))) &&& (255 : Int32)) < (0 : Int32)) ∧ (¬ ((255 : Int32) < ((own_el off ((nar .byte p1.toInt8.toInt32)) ((nar .byte p2.toInt8.toInt32)) ((nar .byte p3.toInt8.toInt32))) &&& (255 : Int32)))))) ∧ (((off + (1 : Int32)) = (3 : Int32)) ↔ (off = (2 : Int32)))) ∧ (((own_el (off + (1 : Int32)) ((nar .byte p1.toInt8.toInt32)) ((nar .byte p2.toInt8.toInt32)) ((nar .byte p3.toInt8.toInt32))) &&& (255 : Int32)) = (own_ref (own_pick ((off + (1 : Int32))) (p1) (p2) (p3))))))), .val (.int ((own_el off ((nar .byte p1.toInt8.toInt32)) ((nar .byte p2.toInt8.toInt32)) ((nar .byte p3.toInt8.toInt32))) &&& (255 : Int32))), .val (.int ((own_el (off + (1 : Int32)) ((nar .byte p1.toInt8.toInt32)) ((nar .byte p2.toInt8.toInt32)) ((nar .byte p3.toInt8.toInt32))) &&& (255 : Int32)))] [(.int (bI (((off + (1 : Int32)) + (1 : Int32)) = (3 : Int32))))])) _
          refine XS.iload X94.here hx rfl (hb hby at_200) rfl ?_
          show Steps p.tables e below (T94.setTop (mkF m 202 #[.val (.int p1), .val (.int p2), .val (.int p3), .val (.int p4), .val (.ref b2), .val (.int off), .val (.ref b20), .val (.int (bI (((((¬ (off = (3 : Int32))) ∧ (((own_el off ((nar .byte p1.toInt8.toInt32)) ((nar .byte p2.toInt8.toInt32)) ((nar .byte p3.toInt8.toInt32))) &&& (255 : Int32)) = (own_ref (own_pick (off) (p1) (p2) (p3))))) ∧ (¬ (((own_el off ((nar .byte p1.toInt8.toInt32)) ((nar .byte p2.toInt8.toInt32)) ((nar .byte p3.toInt8.toInt32))) &&& (255 : Int32)) < (0 : Int32)) ∧ (¬ ((255 : Int32) < ((own_el off ((nar .byte p1.toInt8.toInt32)) ((nar .byte p2.toInt8.toInt32)) ((nar .byte p3.toInt8.toInt32))) &&& (255 : Int32)))))) ∧ (((off + (1 : Int32)) = (3 : Int32)) ↔ (off = (2 : Int32)))) ∧ (((own_el (off + (1 : Int32)) ((nar .byte p1.toInt8.toInt32)) ((nar .byte p2.toInt8.toInt32)) ((nar .byte p3.toInt8.toInt32))) &&& (255 : Int32)) = (own_ref (own_pick ((off + (1 : Int32))) (p1) (p2) (p3))))))), .val (.int ((own_el off ((nar .byte p1.toInt8.toInt32)) ((nar .byte p2.toInt8.toInt32)) ((nar .byte p3.toInt8.toInt32))) &&& (255 : Int32))), .val (.int ((own_el (off + (1 : Int32)) ((nar .byte p1.toInt8.toInt32)) ((nar .byte p2.toInt8.toInt32)) ((nar .byte p3.toInt8.toInt32))) &&& (255 : Int32)))] [(.int off), (.int (bI (((off + (1 : Int32)) + (1 : Int32)) = (3 : Int32))))])) _
          refine XS.iconst X94.here hx rfl (hb hby at_202) ?_
          show Steps p.tables e below (T94.setTop (mkF m 203 #[.val (.int p1), .val (.int p2), .val (.int p3), .val (.int p4), .val (.ref b2), .val (.int off), .val (.ref b20), .val (.int (bI (((((¬ (off = (3 : Int32))) ∧ (((own_el off ((nar .byte p1.toInt8.toInt32)) ((nar .byte p2.toInt8.toInt32)) ((nar .byte p3.toInt8.toInt32))) &&& (255 : Int32)) = (own_ref (own_pick (off) (p1) (p2) (p3))))) ∧ (¬ (((own_el off ((nar .byte p1.toInt8.toInt32)) ((nar .byte p2.toInt8.toInt32)) ((nar .byte p3.toInt8.toInt32))) &&& (255 : Int32)) < (0 : Int32)) ∧ (¬ ((255 : Int32) < ((own_el off ((nar .byte p1.toInt8.toInt32)) ((nar .byte p2.toInt8.toInt32)) ((nar .byte p3.toInt8.toInt32))) &&& (255 : Int32)))))) ∧ (((off + (1 : Int32)) = (3 : Int32)) ↔ (off = (2 : Int32)))) ∧ (((own_el (off + (1 : Int32)) ((nar .byte p1.toInt8.toInt32)) ((nar .byte p2.toInt8.toInt32)) ((nar .byte p3.toInt8.toInt32))) &&& (255 : Int32)) = (own_ref (own_pick ((off + (1 : Int32))) (p1) (p2) (p3))))))), .val (.int ((own_el off ((nar .byte p1.toInt8.toInt32)) ((nar .byte p2.toInt8.toInt32)) ((nar .byte p3.toInt8.toInt32))) &&& (255 : Int32))), .val (.int ((own_el (off + (1 : Int32)) ((nar .byte p1.toInt8.toInt32)) ((nar .byte p2.toInt8.toInt32)) ((nar .byte p3.toInt8.toInt32))) &&& (255 : Int32)))] [(.int (1 : Int32)), (.int off), (.int (bI (((off + (1 : Int32)) + (1 : Int32)) = (3 : Int32))))])) _
          refine XS.iadd X94.here hx rfl (hb hby at_203) rfl ?_
          show Steps p.tables e below (T94.setTop (mkF m 204 #[.val (.int p1), .val (.int p2), .val (.int p3), .val (.int p4), .val (.ref b2), .val (.int off), .val (.ref b20), .val (.int (bI (((((¬ (off = (3 : Int32))) ∧ (((own_el off ((nar .byte p1.toInt8.toInt32)) ((nar .byte p2.toInt8.toInt32)) ((nar .byte p3.toInt8.toInt32))) &&& (255 : Int32)) = (own_ref (own_pick (off) (p1) (p2) (p3))))) ∧ (¬ (((own_el off ((nar .byte p1.toInt8.toInt32)) ((nar .byte p2.toInt8.toInt32)) ((nar .byte p3.toInt8.toInt32))) &&& (255 : Int32)) < (0 : Int32)) ∧ (¬ ((255 : Int32) < ((own_el off ((nar .byte p1.toInt8.toInt32)) ((nar .byte p2.toInt8.toInt32)) ((nar .byte p3.toInt8.toInt32))) &&& (255 : Int32)))))) ∧ (((off + (1 : Int32)) = (3 : Int32)) ↔ (off = (2 : Int32)))) ∧ (((own_el (off + (1 : Int32)) ((nar .byte p1.toInt8.toInt32)) ((nar .byte p2.toInt8.toInt32)) ((nar .byte p3.toInt8.toInt32))) &&& (255 : Int32)) = (own_ref (own_pick ((off + (1 : Int32))) (p1) (p2) (p3))))))), .val (.int ((own_el off ((nar .byte p1.toInt8.toInt32)) ((nar .byte p2.toInt8.toInt32)) ((nar .byte p3.toInt8.toInt32))) &&& (255 : Int32))), .val (.int ((own_el (off + (1 : Int32)) ((nar .byte p1.toInt8.toInt32)) ((nar .byte p2.toInt8.toInt32)) ((nar .byte p3.toInt8.toInt32))) &&& (255 : Int32)))] [(.int (off + (1 : Int32))), (.int (bI (((off + (1 : Int32)) + (1 : Int32)) = (3 : Int32))))])) _
          refine XS.iconst X94.here hx rfl (hb hby at_204) ?_
          show Steps p.tables e below (T94.setTop (mkF m 205 #[.val (.int p1), .val (.int p2), .val (.int p3), .val (.int p4), .val (.ref b2), .val (.int off), .val (.ref b20), .val (.int (bI (((((¬ (off = (3 : Int32))) ∧ (((own_el off ((nar .byte p1.toInt8.toInt32)) ((nar .byte p2.toInt8.toInt32)) ((nar .byte p3.toInt8.toInt32))) &&& (255 : Int32)) = (own_ref (own_pick (off) (p1) (p2) (p3))))) ∧ (¬ (((own_el off ((nar .byte p1.toInt8.toInt32)) ((nar .byte p2.toInt8.toInt32)) ((nar .byte p3.toInt8.toInt32))) &&& (255 : Int32)) < (0 : Int32)) ∧ (¬ ((255 : Int32) < ((own_el off ((nar .byte p1.toInt8.toInt32)) ((nar .byte p2.toInt8.toInt32)) ((nar .byte p3.toInt8.toInt32))) &&& (255 : Int32)))))) ∧ (((off + (1 : Int32)) = (3 : Int32)) ↔ (off = (2 : Int32)))) ∧ (((own_el (off + (1 : Int32)) ((nar .byte p1.toInt8.toInt32)) ((nar .byte p2.toInt8.toInt32)) ((nar .byte p3.toInt8.toInt32))) &&& (255 : Int32)) = (own_ref (own_pick ((off + (1 : Int32))) (p1) (p2) (p3))))))), .val (.int ((own_el off ((nar .byte p1.toInt8.toInt32)) ((nar .byte p2.toInt8.toInt32)) ((nar .byte p3.toInt8.toInt32))) &&& (255 : Int32))), .val (.int ((own_el (off + (1 : Int32)) ((nar .byte p1.toInt8.toInt32)) ((nar .byte p2.toInt8.toInt32)) ((nar .byte p3.toInt8.toInt32))) &&& (255 : Int32)))] [(.int (2 : Int32)), (.int (off + (1 : Int32))), (.int (bI (((off + (1 : Int32)) + (1 : Int32)) = (3 : Int32))))])) _
          exact kk
        obtain ⟨T97, lo97, X97, N97, e97, pre97⟩ : ∃ (T' : State) (lo : List Loc), Stand p l e room_1 s m #[(.int p1), (.int p2), (.int p3), (.int p4)] below meth c T' lo 2 5 ∧ Fr n0 lo ∧ T'.heap = T77.heap ∧ ∀ tgt, Steps p.tables e below (T'.setTop (mkF m 213 #[.val (.int p1), .val (.int p2), .val (.int p3), .val (.int p4), .val (.ref b2), .val (.int off), .val (.ref b20), .val (.int (bI (((((¬ (off = (3 : Int32))) ∧ (((own_el off ((nar .byte p1.toInt8.toInt32)) ((nar .byte p2.toInt8.toInt32)) ((nar .byte p3.toInt8.toInt32))) &&& (255 : Int32)) = (own_ref (own_pick (off) (p1) (p2) (p3))))) ∧ (¬ (((own_el off ((nar .byte p1.toInt8.toInt32)) ((nar .byte p2.toInt8.toInt32)) ((nar .byte p3.toInt8.toInt32))) &&& (255 : Int32)) < (0 : Int32)) ∧ (¬ ((255 : Int32) < ((own_el off ((nar .byte p1.toInt8.toInt32)) ((nar .byte p2.toInt8.toInt32)) ((nar .byte p3.toInt8.toInt32))) &&& (255 : Int32)))))) ∧ (((off + (1 : Int32)) = (3 : Int32)) ↔ (off = (2 : Int32)))) ∧ (((own_el (off + (1 : Int32)) ((nar .byte p1.toInt8.toInt32)) ((nar .byte p2.toInt8.toInt32)) ((nar .byte p3.toInt8.toInt32))) &&& (255 : Int32)) = (own_ref (own_pick ((off + (1 : Int32))) (p1) (p2) (p3))))))), .val (.int ((own_el off ((nar .byte p1.toInt8.toInt32)) ((nar .byte p2.toInt8.toInt32)) ((nar .byte p3.toInt8.toInt32))) &&& (255 : Int32))), .val (.int ((own_el (off + (1 : Int32)) ((nar .byte p1.toInt8.toInt32)) ((nar .byte p2.toInt8.toInt32)) ((nar .byte p3.toInt8.toInt32))) &&& (255 : Int32)))] [(.int (bI ((off + (1 : Int32)) = (2 : Int32)))), (.int (bI (((off + (1 : Int32)) + (1 : Int32)) = (3 : Int32))))])) tgt → Steps p.tables e below (s₁.setTop (entryFrame m #[(.int p1), (.int p2), (.int p3), (.int p4)] maxLocals)) tgt := by
          by_cases hc205_96 : (off + (1 : Int32)) = (2 : Int32)
          · skip
            refine ⟨T94, _, X94, N94, hh94, fun tgt kk => ?_⟩
            have kq98 : ((.int (bI ((off + (1 : Int32)) = (2 : Int32)))) : Value) = (.int (1 : Int32)) := (congrArg Value.int (bI_t hc205_96))
            rw [kq98] at kk
            refine pre95 tgt ?_
            refine XS.icmpNo X94.here hx rfl (hb hby at_205) rfl (XT.ii_ne_f hc205_96) ?_
            show Steps p.tables e below (T94.setTop (mkF m 208 #[.val (.int p1), .val (.int p2), .val (.int p3), .val (.int p4), .val (.ref b2), .val (.int off), .val (.ref b20), .val (.int (bI (((((¬ (off = (3 : Int32))) ∧ (((own_el off ((nar .byte p1.toInt8.toInt32)) ((nar .byte p2.toInt8.toInt32)) ((nar .byte p3.toInt8.toInt32))) &&& (255 : Int32)) = (own_ref (own_pick (off) (p1) (p2) (p3))))) ∧ (¬ (((own_el off ((nar .byte p1.toInt8.toInt32)) ((nar .byte p2.toInt8.toInt32)) ((nar .byte p3.toInt8.toInt32))) &&& (255 : Int32)) < (0 : Int32)) ∧ (¬ ((255 : Int32) < ((own_el off ((nar .byte p1.toInt8.toInt32)) ((nar .byte p2.toInt8.toInt32)) ((nar .byte p3.toInt8.toInt32))) &&& (255 : Int32)))))) ∧ (((off + (1 : Int32)) = (3 : Int32)) ↔ (off = (2 : Int32)))) ∧ (((own_el (off + (1 : Int32)) ((nar .byte p1.toInt8.toInt32)) ((nar .byte p2.toInt8.toInt32)) ((nar .byte p3.toInt8.toInt32))) &&& (255 : Int32)) = (own_ref (own_pick ((off + (1 : Int32))) (p1) (p2) (p3))))))), .val (.int ((own_el off ((nar .byte p1.toInt8.toInt32)) ((nar .byte p2.toInt8.toInt32)) ((nar .byte p3.toInt8.toInt32))) &&& (255 : Int32))), .val (.int ((own_el (off + (1 : Int32)) ((nar .byte p1.toInt8.toInt32)) ((nar .byte p2.toInt8.toInt32)) ((nar .byte p3.toInt8.toInt32))) &&& (255 : Int32)))] [(.int (bI (((off + (1 : Int32)) + (1 : Int32)) = (3 : Int32))))])) _
            refine XS.iconst X94.here hx rfl (hb hby at_208) ?_
            show Steps p.tables e below (T94.setTop (mkF m 209 #[.val (.int p1), .val (.int p2), .val (.int p3), .val (.int p4), .val (.ref b2), .val (.int off), .val (.ref b20), .val (.int (bI (((((¬ (off = (3 : Int32))) ∧ (((own_el off ((nar .byte p1.toInt8.toInt32)) ((nar .byte p2.toInt8.toInt32)) ((nar .byte p3.toInt8.toInt32))) &&& (255 : Int32)) = (own_ref (own_pick (off) (p1) (p2) (p3))))) ∧ (¬ (((own_el off ((nar .byte p1.toInt8.toInt32)) ((nar .byte p2.toInt8.toInt32)) ((nar .byte p3.toInt8.toInt32))) &&& (255 : Int32)) < (0 : Int32)) ∧ (¬ ((255 : Int32) < ((own_el off ((nar .byte p1.toInt8.toInt32)) ((nar .byte p2.toInt8.toInt32)) ((nar .byte p3.toInt8.toInt32))) &&& (255 : Int32)))))) ∧ (((off + (1 : Int32)) = (3 : Int32)) ↔ (off = (2 : Int32)))) ∧ (((own_el (off + (1 : Int32)) ((nar .byte p1.toInt8.toInt32)) ((nar .byte p2.toInt8.toInt32)) ((nar .byte p3.toInt8.toInt32))) &&& (255 : Int32)) = (own_ref (own_pick ((off + (1 : Int32))) (p1) (p2) (p3))))))), .val (.int ((own_el off ((nar .byte p1.toInt8.toInt32)) ((nar .byte p2.toInt8.toInt32)) ((nar .byte p3.toInt8.toInt32))) &&& (255 : Int32))), .val (.int ((own_el (off + (1 : Int32)) ((nar .byte p1.toInt8.toInt32)) ((nar .byte p2.toInt8.toInt32)) ((nar .byte p3.toInt8.toInt32))) &&& (255 : Int32)))] [(.int (1 : Int32)), (.int (bI (((off + (1 : Int32)) + (1 : Int32)) = (3 : Int32))))])) _
            refine XS.goto X94.here hx rfl (pc0 := 209) (pc' := 213) rfl (hb hby at_209) (by decide) (by decide) ?_
            show Steps p.tables e below (T94.setTop (mkF m 213 #[.val (.int p1), .val (.int p2), .val (.int p3), .val (.int p4), .val (.ref b2), .val (.int off), .val (.ref b20), .val (.int (bI (((((¬ (off = (3 : Int32))) ∧ (((own_el off ((nar .byte p1.toInt8.toInt32)) ((nar .byte p2.toInt8.toInt32)) ((nar .byte p3.toInt8.toInt32))) &&& (255 : Int32)) = (own_ref (own_pick (off) (p1) (p2) (p3))))) ∧ (¬ (((own_el off ((nar .byte p1.toInt8.toInt32)) ((nar .byte p2.toInt8.toInt32)) ((nar .byte p3.toInt8.toInt32))) &&& (255 : Int32)) < (0 : Int32)) ∧ (¬ ((255 : Int32) < ((own_el off ((nar .byte p1.toInt8.toInt32)) ((nar .byte p2.toInt8.toInt32)) ((nar .byte p3.toInt8.toInt32))) &&& (255 : Int32)))))) ∧ (((off + (1 : Int32)) = (3 : Int32)) ↔ (off = (2 : Int32)))) ∧ (((own_el (off + (1 : Int32)) ((nar .byte p1.toInt8.toInt32)) ((nar .byte p2.toInt8.toInt32)) ((nar .byte p3.toInt8.toInt32))) &&& (255 : Int32)) = (own_ref (own_pick ((off + (1 : Int32))) (p1) (p2) (p3))))))), .val (.int ((own_el off ((nar .byte p1.toInt8.toInt32)) ((nar .byte p2.toInt8.toInt32)) ((nar .byte p3.toInt8.toInt32))) &&& (255 : Int32))), .val (.int ((own_el (off + (1 : Int32)) ((nar .byte p1.toInt8.toInt32)) ((nar .byte p2.toInt8.toInt32)) ((nar .byte p3.toInt8.toInt32))) &&& (255 : Int32)))] [(.int (1 : Int32)), (.int (bI (((off + (1 : Int32)) + (1 : Int32)) = (3 : Int32))))])) _
            exact kk
          · skip
            refine ⟨T94, _, X94, N94, hh94, fun tgt kk => ?_⟩
            have kq99 : ((.int (bI ((off + (1 : Int32)) = (2 : Int32)))) : Value) = (.int (0 : Int32)) := (congrArg Value.int (bI_f hc205_96))
            rw [kq99] at kk
            refine pre95 tgt ?_
            refine XS.icmpYes X94.here hx rfl (pc0 := 205) (pc' := 212) rfl (hb hby at_205) rfl (XT.ii_ne_t hc205_96) (by decide) (by decide) ?_
            show Steps p.tables e below (T94.setTop (mkF m 212 #[.val (.int p1), .val (.int p2), .val (.int p3), .val (.int p4), .val (.ref b2), .val (.int off), .val (.ref b20), .val (.int (bI (((((¬ (off = (3 : Int32))) ∧ (((own_el off ((nar .byte p1.toInt8.toInt32)) ((nar .byte p2.toInt8.toInt32)) ((nar .byte p3.toInt8.toInt32))) &&& (255 : Int32)) = (own_ref (own_pick (off) (p1) (p2) (p3))))) ∧ (¬ (((own_el off ((nar .byte p1.toInt8.toInt32)) ((nar .byte p2.toInt8.toInt32)) ((nar .byte p3.toInt8.toInt32))) &&& (255 : Int32)) < (0 : Int32)) ∧ (¬ ((255 : Int32) < ((own_el off ((nar .byte p1.toInt8.toInt32)) ((nar .byte p2.toInt8.toInt32)) ((nar .byte p3.toInt8.toInt32))) &&& (255 : Int32)))))) ∧ (((off + (1 : Int32)) = (3 : Int32)) ↔ (off = (2 : Int32)))) ∧ (((own_el (off + (1 : Int32)) ((nar .byte p1.toInt8.toInt32)) ((nar .byte p2.toInt8.toInt32)) ((nar .byte p3.toInt8.toInt32))) &&& (255 : Int32)) = (own_ref (own_pick ((off + (1 : Int32))) (p1) (p2) (p3))))))), .val (.int ((own_el off ((nar .byte p1.toInt8.toInt32)) ((nar .byte p2.toInt8.toInt32)) ((nar .byte p3.toInt8.toInt32))) &&& (255 : Int32))), .val (.int ((own_el (off + (1 : Int32)) ((nar .byte p1.toInt8.toInt32)) ((nar .byte p2.toInt8.toInt32)) ((nar .byte p3.toInt8.toInt32))) &&& (255 : Int32)))] [(.int (bI (((off + (1 : Int32)) + (1 : Int32)) = (3 : Int32))))])) _
            refine XS.iconst X94.here hx rfl (hb hby at_212) ?_
            show Steps p.tables e below (T94.setTop (mkF m 213 #[.val (.int p1), .val (.int p2), .val (.int p3), .val (.int p4), .val (.ref b2), .val (.int off), .val (.ref b20), .val (.int (bI (((((¬ (off = (3 : Int32))) ∧ (((own_el off ((nar .byte p1.toInt8.toInt32)) ((nar .byte p2.toInt8.toInt32)) ((nar .byte p3.toInt8.toInt32))) &&& (255 : Int32)) = (own_ref (own_pick (off) (p1) (p2) (p3))))) ∧ (¬ (((own_el off ((nar .byte p1.toInt8.toInt32)) ((nar .byte p2.toInt8.toInt32)) ((nar .byte p3.toInt8.toInt32))) &&& (255 : Int32)) < (0 : Int32)) ∧ (¬ ((255 : Int32) < ((own_el off ((nar .byte p1.toInt8.toInt32)) ((nar .byte p2.toInt8.toInt32)) ((nar .byte p3.toInt8.toInt32))) &&& (255 : Int32)))))) ∧ (((off + (1 : Int32)) = (3 : Int32)) ↔ (off = (2 : Int32)))) ∧ (((own_el (off + (1 : Int32)) ((nar .byte p1.toInt8.toInt32)) ((nar .byte p2.toInt8.toInt32)) ((nar .byte p3.toInt8.toInt32))) &&& (255 : Int32)) = (own_ref (own_pick ((off + (1 : Int32))) (p1) (p2) (p3))))))), .val (.int ((own_el off ((nar .byte p1.toInt8.toInt32)) ((nar .byte p2.toInt8.toInt32)) ((nar .byte p3.toInt8.toInt32))) &&& (255 : Int32))), .val (.int ((own_el (off + (1 : Int32)) ((nar .byte p1.toInt8.toInt32)) ((nar .byte p2.toInt8.toInt32)) ((nar .byte p3.toInt8.toInt32))) &&& (255 : Int32)))] [(.int (0 : Int32)), (.int (bI (((off + (1 : Int32)) + (1 : Int32)) = (3 : Int32))))])) _
            exact kk
        by_cases hc213_100 : (((off + (1 : Int32)) + (1 : Int32)) = (3 : Int32)) ↔ ((off + (1 : Int32)) = (2 : Int32))
        · skip
          refine ⟨T97, _, X97, N97, e97, fun tgt kk => ?_⟩
          have kq102 : ((.int (bI ((((((¬ (off = (3 : Int32))) ∧ (((own_el off ((nar .byte p1.toInt8.toInt32)) ((nar .byte p2.toInt8.toInt32)) ((nar .byte p3.toInt8.toInt32))) &&& (255 : Int32)) = (own_ref (own_pick (off) (p1) (p2) (p3))))) ∧ (¬ (((own_el off ((nar .byte p1.toInt8.toInt32)) ((nar .byte p2.toInt8.toInt32)) ((nar .byte p3.toInt8.toInt32))) &&& (255 : Int32)) < (0 : Int32)) ∧ (¬ ((255 : Int32) < ((own_el off ((nar .byte p1.toInt8.toInt32)) ((nar .byte p2.toInt8.toInt32)) ((nar .byte p3.toInt8.toInt32))) &&& (255 : Int32)))))) ∧ (((off + (1 : Int32)) = (3 : Int32)) ↔ (off = (2 : Int32)))) ∧ (((own_el (off + (1 : Int32)) ((nar .byte p1.toInt8.toInt32)) ((nar .byte p2.toInt8.toInt32)) ((nar .byte p3.toInt8.toInt32))) &&& (255 : Int32)) = (own_ref (own_pick ((off + (1 : Int32))) (p1) (p2) (p3))))) ∧ ((((off + (1 : Int32)) + (1 : Int32)) = (3 : Int32)) ↔ ((off + (1 : Int32)) = (2 : Int32)))))) : Value) = (.int (1 : Int32)) := ((congrArg Value.int (bI_iff (and_iff_right hc192_92))).trans (congrArg Value.int (bI_t hc213_100)))
          rw [kq102] at kk
          refine pre97 tgt ?_
          refine XS.icmpNo X97.here hx rfl (hb hby at_213) rfl (XT.ii_ne_f (bI_eq.mpr hc213_100)) ?_
          show Steps p.tables e below (T97.setTop (mkF m 216 #[.val (.int p1), .val (.int p2), .val (.int p3), .val (.int p4), .val (.ref b2), .val (.int off), .val (.ref b20), .val (.int (bI (((((¬ (off = (3 : Int32))) ∧ (((own_el off ((nar .byte p1.toInt8.toInt32)) ((nar .byte p2.toInt8.toInt32)) ((nar .byte p3.toInt8.toInt32))) &&& (255 : Int32)) = (own_ref (own_pick (off) (p1) (p2) (p3))))) ∧ (¬ (((own_el off ((nar .byte p1.toInt8.toInt32)) ((nar .byte p2.toInt8.toInt32)) ((nar .byte p3.toInt8.toInt32))) &&& (255 : Int32)) < (0 : Int32)) ∧ (¬ ((255 : Int32) < ((own_el off ((nar .byte p1.toInt8.toInt32)) ((nar .byte p2.toInt8.toInt32)) ((nar .byte p3.toInt8.toInt32))) &&& (255 : Int32)))))) ∧ (((off + (1 : Int32)) = (3 : Int32)) ↔ (off = (2 : Int32)))) ∧ (((own_el (off + (1 : Int32)) ((nar .byte p1.toInt8.toInt32)) ((nar .byte p2.toInt8.toInt32)) ((nar .byte p3.toInt8.toInt32))) &&& (255 : Int32)) = (own_ref (own_pick ((off + (1 : Int32))) (p1) (p2) (p3))))))), .val (.int ((own_el off ((nar .byte p1.toInt8.toInt32)) ((nar .byte p2.toInt8.toInt32)) ((nar .byte p3.toInt8.toInt32))) &&& (255 : Int32))), .val (.int ((own_el (off + (1 : Int32)) ((nar .byte p1.toInt8.toInt32)) ((nar .byte p2.toInt8.toInt32)) ((nar .byte p3.toInt8.toInt32))) &&& (255 : Int32)))] [])) _
          refine XS.iconst X97.here hx rfl (hb hby at_216) ?_
          show Steps p.tables e below (T97.setTop (mkF m 217 #[.val (.int p1), .val (.int p2), .val (.int p3), .val (.int p4), .val (.ref b2), .val (.int off), .val (.ref b20), .val (.int (bI (((((¬ (off = (3 : Int32))) ∧ (((own_el off ((nar .byte p1.toInt8.toInt32)) ((nar .byte p2.toInt8.toInt32)) ((nar .byte p3.toInt8.toInt32))) &&& (255 : Int32)) = (own_ref (own_pick (off) (p1) (p2) (p3))))) ∧ (¬ (((own_el off ((nar .byte p1.toInt8.toInt32)) ((nar .byte p2.toInt8.toInt32)) ((nar .byte p3.toInt8.toInt32))) &&& (255 : Int32)) < (0 : Int32)) ∧ (¬ ((255 : Int32) < ((own_el off ((nar .byte p1.toInt8.toInt32)) ((nar .byte p2.toInt8.toInt32)) ((nar .byte p3.toInt8.toInt32))) &&& (255 : Int32)))))) ∧ (((off + (1 : Int32)) = (3 : Int32)) ↔ (off = (2 : Int32)))) ∧ (((own_el (off + (1 : Int32)) ((nar .byte p1.toInt8.toInt32)) ((nar .byte p2.toInt8.toInt32)) ((nar .byte p3.toInt8.toInt32))) &&& (255 : Int32)) = (own_ref (own_pick ((off + (1 : Int32))) (p1) (p2) (p3))))))), .val (.int ((own_el off ((nar .byte p1.toInt8.toInt32)) ((nar .byte p2.toInt8.toInt32)) ((nar .byte p3.toInt8.toInt32))) &&& (255 : Int32))), .val (.int ((own_el (off + (1 : Int32)) ((nar .byte p1.toInt8.toInt32)) ((nar .byte p2.toInt8.toInt32)) ((nar .byte p3.toInt8.toInt32))) &&& (255 : Int32)))] [(.int (1 : Int32))])) _
          refine XS.goto X97.here hx rfl (pc0 := 217) (pc' := 221) rfl (hb hby at_217) (by decide) (by decide) ?_
          show Steps p.tables e below (T97.setTop (mkF m 221 #[.val (.int p1), .val (.int p2), .val (.int p3), .val (.int p4), .val (.ref b2), .val (.int off), .val (.ref b20), .val (.int (bI (((((¬ (off = (3 : Int32))) ∧ (((own_el off ((nar .byte p1.toInt8.toInt32)) ((nar .byte p2.toInt8.toInt32)) ((nar .byte p3.toInt8.toInt32))) &&& (255 : Int32)) = (own_ref (own_pick (off) (p1) (p2) (p3))))) ∧ (¬ (((own_el off ((nar .byte p1.toInt8.toInt32)) ((nar .byte p2.toInt8.toInt32)) ((nar .byte p3.toInt8.toInt32))) &&& (255 : Int32)) < (0 : Int32)) ∧ (¬ ((255 : Int32) < ((own_el off ((nar .byte p1.toInt8.toInt32)) ((nar .byte p2.toInt8.toInt32)) ((nar .byte p3.toInt8.toInt32))) &&& (255 : Int32)))))) ∧ (((off + (1 : Int32)) = (3 : Int32)) ↔ (off = (2 : Int32)))) ∧ (((own_el (off + (1 : Int32)) ((nar .byte p1.toInt8.toInt32)) ((nar .byte p2.toInt8.toInt32)) ((nar .byte p3.toInt8.toInt32))) &&& (255 : Int32)) = (own_ref (own_pick ((off + (1 : Int32))) (p1) (p2) (p3))))))), .val (.int ((own_el off ((nar .byte p1.toInt8.toInt32)) ((nar .byte p2.toInt8.toInt32)) ((nar .byte p3.toInt8.toInt32))) &&& (255 : Int32))), .val (.int ((own_el (off + (1 : Int32)) ((nar .byte p1.toInt8.toInt32)) ((nar .byte p2.toInt8.toInt32)) ((nar .byte p3.toInt8.toInt32))) &&& (255 : Int32)))] [(.int (1 : Int32))])) _
          exact kk
        · skip
          refine ⟨T97, _, X97, N97, e97, fun tgt kk => ?_⟩
          have kq103 : ((.int (bI ((((((¬ (off = (3 : Int32))) ∧ (((own_el off ((nar .byte p1.toInt8.toInt32)) ((nar .byte p2.toInt8.toInt32)) ((nar .byte p3.toInt8.toInt32))) &&& (255 : Int32)) = (own_ref (own_pick (off) (p1) (p2) (p3))))) ∧ (¬ (((own_el off ((nar .byte p1.toInt8.toInt32)) ((nar .byte p2.toInt8.toInt32)) ((nar .byte p3.toInt8.toInt32))) &&& (255 : Int32)) < (0 : Int32)) ∧ (¬ ((255 : Int32) < ((own_el off ((nar .byte p1.toInt8.toInt32)) ((nar .byte p2.toInt8.toInt32)) ((nar .byte p3.toInt8.toInt32))) &&& (255 : Int32)))))) ∧ (((off + (1 : Int32)) = (3 : Int32)) ↔ (off = (2 : Int32)))) ∧ (((own_el (off + (1 : Int32)) ((nar .byte p1.toInt8.toInt32)) ((nar .byte p2.toInt8.toInt32)) ((nar .byte p3.toInt8.toInt32))) &&& (255 : Int32)) = (own_ref (own_pick ((off + (1 : Int32))) (p1) (p2) (p3))))) ∧ ((((off + (1 : Int32)) + (1 : Int32)) = (3 : Int32)) ↔ ((off + (1 : Int32)) = (2 : Int32)))))) : Value) = (.int (0 : Int32)) := ((congrArg Value.int (bI_iff (and_iff_right hc192_92))).trans (congrArg Value.int (bI_f hc213_100)))
          rw [kq103] at kk
          refine pre97 tgt ?_
          refine XS.icmpYes X97.here hx rfl (pc0 := 213) (pc' := 220) rfl (hb hby at_213) rfl (XT.ii_ne_t (fun q => hc213_100 (bI_eq.mp q))) (by decide) (by decide) ?_
          show Steps p.tables e below (T97.setTop (mkF m 220 #[.val (.int p1), .val (.int p2), .val (.int p3), .val (.int p4), .val (.ref b2), .val (.int off), .val (.ref b20), .val (.int (bI (((((¬ (off = (3 : Int32))) ∧ (((own_el off ((nar .byte p1.toInt8.toInt32)) ((nar .byte p2.toInt8.toInt32)) ((nar .byte p3.toInt8.toInt32))) &&& (255 : Int32)) = (own_ref (own_pick (off) (p1) (p2) (p3))))) ∧ (¬ (((own_el off ((nar .byte p1.toInt8.toInt32)) ((nar .byte p2.toInt8.toInt32)) ((nar .byte p3.toInt8.toInt32))) &&& (255 : Int32)) < (0 : Int32)) ∧ (¬ ((255 : Int32) < ((own_el off ((nar .byte p1.toInt8.toInt32)) ((nar .byte p2.toInt8.toInt32)) ((nar .byte p3.toInt8.toInt32))) &&& (255 : Int32)))))) ∧ (((off + (1 : Int32)) = (3 : Int32)) ↔ (off = (2 : Int32)))) ∧ (((own_el (off + (1 : Int32)) ((nar .byte p1.toInt8.toInt32)) ((nar .byte p2.toInt8.toInt32)) ((nar .byte p3.toInt8.toInt32))) &&& (255 : Int32)) = (own_ref (own_pick ((off + (1 : Int32))) (p1) (p2) (p3))))))), .val (.int ((own_el off ((nar .byte p1.toInt8.toInt32)) ((nar .byte p2.toInt8.toInt32)) ((nar .byte p3.toInt8.toInt32))) &&& (255 : Int32))), .val (.int ((own_el (off + (1 : Int32)) ((nar .byte p1.toInt8.toInt32)) ((nar .byte p2.toInt8.toInt32)) ((nar .byte p3.toInt8.toInt32))) &&& (255 : Int32)))] [])) _
          refine XS.iconst X97.here hx rfl (hb hby at_220) ?_
          show Steps p.tables e below (T97.setTop (mkF m 221 #[.val (.int p1), .val (.int p2), .val (.int p3), .val (.int p4), .val (.ref b2), .val (.int off), .val (.ref b20), .val (.int (bI (((((¬ (off = (3 : Int32))) ∧ (((own_el off ((nar .byte p1.toInt8.toInt32)) ((nar .byte p2.toInt8.toInt32)) ((nar .byte p3.toInt8.toInt32))) &&& (255 : Int32)) = (own_ref (own_pick (off) (p1) (p2) (p3))))) ∧ (¬ (((own_el off ((nar .byte p1.toInt8.toInt32)) ((nar .byte p2.toInt8.toInt32)) ((nar .byte p3.toInt8.toInt32))) &&& (255 : Int32)) < (0 : Int32)) ∧ (¬ ((255 : Int32) < ((own_el off ((nar .byte p1.toInt8.toInt32)) ((nar .byte p2.toInt8.toInt32)) ((nar .byte p3.toInt8.toInt32))) &&& (255 : Int32)))))) ∧ (((off + (1 : Int32)) = (3 : Int32)) ↔ (off = (2 : Int32)))) ∧ (((own_el (off + (1 : Int32)) ((nar .byte p1.toInt8.toInt32)) ((nar .byte p2.toInt8.toInt32)) ((nar .byte p3.toInt8.toInt32))) &&& (255 : Int32)) = (own_ref (own_pick ((off + (1 : Int32))) (p1) (p2) (p3))))))), .val (.int ((own_el off ((nar .byte p1.toInt8.toInt32)) ((nar .byte p2.toInt8.toInt32)) ((nar .byte p3.toInt8.toInt32))) &&& (255 : Int32))), .val (.int ((own_el (off + (1 : Int32)) ((nar .byte p1.toInt8.toInt32)) ((nar .byte p2.toInt8.toInt32)) ((nar .byte p3.toInt8.toInt32))) &&& (255 : Int32)))] [(.int (0 : Int32))])) _
          exact kk
      · skip
        refine ⟨T87, _, X87, N87, e87, fun tgt kk => ?_⟩
        have kq104 : ((.int (bI ((((((¬ (off = (3 : Int32))) ∧ (((own_el off ((nar .byte p1.toInt8.toInt32)) ((nar .byte p2.toInt8.toInt32)) ((nar .byte p3.toInt8.toInt32))) &&& (255 : Int32)) = (own_ref (own_pick (off) (p1) (p2) (p3))))) ∧ (¬ (((own_el off ((nar .byte p1.toInt8.toInt32)) ((nar .byte p2.toInt8.toInt32)) ((nar .byte p3.toInt8.toInt32))) &&& (255 : Int32)) < (0 : Int32)) ∧ (¬ ((255 : Int32) < ((own_el off ((nar .byte p1.toInt8.toInt32)) ((nar .byte p2.toInt8.toInt32)) ((nar .byte p3.toInt8.toInt32))) &&& (255 : Int32)))))) ∧ (((off + (1 : Int32)) = (3 : Int32)) ↔ (off = (2 : Int32)))) ∧ (((own_el (off + (1 : Int32)) ((nar .byte p1.toInt8.toInt32)) ((nar .byte p2.toInt8.toInt32)) ((nar .byte p3.toInt8.toInt32))) &&& (255 : Int32)) = (own_ref (own_pick ((off + (1 : Int32))) (p1) (p2) (p3))))) ∧ ((((off + (1 : Int32)) + (1 : Int32)) = (3 : Int32)) ↔ ((off + (1 : Int32)) = (2 : Int32)))))) : Value) = (.int (0 : Int32)) := (congrArg Value.int (bI_f (fun q => hc192_92 q.1)))
        rw [kq104] at kk
        refine pre91 tgt ?_
        refine XS.ifYes X87.here hx rfl (pc0 := 192) (pc' := 220) rfl (hb hby at_192) rfl (bB_eq_t hc192_92) (by decide) (by decide) ?_
        show Steps p.tables e below (T87.setTop (mkF m 220 #[.val (.int p1), .val (.int p2), .val (.int p3), .val (.int p4), .val (.ref b2), .val (.int off), .val (.ref b20), .val (.int (bI (((((¬ (off = (3 : Int32))) ∧ (((own_el off ((nar .byte p1.toInt8.toInt32)) ((nar .byte p2.toInt8.toInt32)) ((nar .byte p3.toInt8.toInt32))) &&& (255 : Int32)) = (own_ref (own_pick (off) (p1) (p2) (p3))))) ∧ (¬ (((own_el off ((nar .byte p1.toInt8.toInt32)) ((nar .byte p2.toInt8.toInt32)) ((nar .byte p3.toInt8.toInt32))) &&& (255 : Int32)) < (0 : Int32)) ∧ (¬ ((255 : Int32) < ((own_el off ((nar .byte p1.toInt8.toInt32)) ((nar .byte p2.toInt8.toInt32)) ((nar .byte p3.toInt8.toInt32))) &&& (255 : Int32)))))) ∧ (((off + (1 : Int32)) = (3 : Int32)) ↔ (off = (2 : Int32)))) ∧ (((own_el (off + (1 : Int32)) ((nar .byte p1.toInt8.toInt32)) ((nar .byte p2.toInt8.toInt32)) ((nar .byte p3.toInt8.toInt32))) &&& (255 : Int32)) = (own_ref (own_pick ((off + (1 : Int32))) (p1) (p2) (p3))))))), .val (.int ((own_el off ((nar .byte p1.toInt8.toInt32)) ((nar .byte p2.toInt8.toInt32)) ((nar .byte p3.toInt8.toInt32))) &&& (255 : Int32))), .val (.int ((own_el (off + (1 : Int32)) ((nar .byte p1.toInt8.toInt32)) ((nar .byte p2.toInt8.toInt32)) ((nar .byte p3.toInt8.toInt32))) &&& (255 : Int32)))] [])) _
        refine XS.iconst X87.here hx rfl (hb hby at_220) ?_
        show Steps p.tables e below (T87.setTop (mkF m 221 #[.val (.int p1), .val (.int p2), .val (.int p3), .val (.int p4), .val (.ref b2), .val (.int off), .val (.ref b20), .val (.int (bI (((((¬ (off = (3 : Int32))) ∧ (((own_el off ((nar .byte p1.toInt8.toInt32)) ((nar .byte p2.toInt8.toInt32)) ((nar .byte p3.toInt8.toInt32))) &&& (255 : Int32)) = (own_ref (own_pick (off) (p1) (p2) (p3))))) ∧ (¬ (((own_el off ((nar .byte p1.toInt8.toInt32)) ((nar .byte p2.toInt8.toInt32)) ((nar .byte p3.toInt8.toInt32))) &&& (255 : Int32)) < (0 : Int32)) ∧ (¬ ((255 : Int32) < ((own_el off ((nar .byte p1.toInt8.toInt32)) ((nar .byte p2.toInt8.toInt32)) ((nar .byte p3.toInt8.toInt32))) &&& (255 : Int32)))))) ∧ (((off + (1 : Int32)) = (3 : Int32)) ↔ (off = (2 : Int32)))) ∧ (((own_el (off + (1 : Int32)) ((nar .byte p1.toInt8.toInt32)) ((nar .byte p2.toInt8.toInt32)) ((nar .byte p3.toInt8.toInt32))) &&& (255 : Int32)) = (own_ref (own_pick ((off + (1 : Int32))) (p1) (p2) (p3))))))), .val (.int ((own_el off ((nar .byte p1.toInt8.toInt32)) ((nar .byte p2.toInt8.toInt32)) ((nar .byte p3.toInt8.toInt32))) &&& (255 : Int32))), .val (.int ((own_el (off + (1 : Int32)) ((nar .byte p1.toInt8.toInt32)) ((nar .byte p2.toInt8.toInt32)) ((nar .byte p3.toInt8.toInt32))) &&& (255 : Int32)))] [(.int (0 : Int32))])) _
        exact kk
    obtain ⟨fs, hr, hrun, hended, hW, hsame⟩ := X101.leave (v := some (.int (nar .boolean (bI ((((((¬ (off = (3 : Int32))) ∧ (((own_el off ((nar .byte p1.toInt8.toInt32)) ((nar .byte p2.toInt8.toInt32)) ((nar .byte p3.toInt8.toInt32))) &&& (255 : Int32)) = (own_ref (own_pick (off) (p1) (p2) (p3))))) ∧ (¬ (((own_el off ((nar .byte p1.toInt8.toInt32)) ((nar .byte p2.toInt8.toInt32)) ((nar .byte p3.toInt8.toInt32))) &&& (255 : Int32)) < (0 : Int32)) ∧ (¬ ((255 : Int32) < ((own_el off ((nar .byte p1.toInt8.toInt32)) ((nar .byte p2.toInt8.toInt32)) ((nar .byte p3.toInt8.toInt32))) &&& (255 : Int32)))))) ∧ (((off + (1 : Int32)) = (3 : Int32)) ↔ (off = (2 : Int32)))) ∧ (((own_el (off + (1 : Int32)) ((nar .byte p1.toInt8.toInt32)) ((nar .byte p2.toInt8.toInt32)) ((nar .byte p3.toInt8.toInt32))) &&& (255 : Int32)) = (own_ref (own_pick ((off + (1 : Int32))) (p1) (p2) (p3))))) ∧ ((((off + (1 : Int32)) + (1 : Int32)) = (3 : Int32)) ↔ ((off + (1 : Int32)) = (2 : Int32)))))))) (fun h => by rw [Bd.returns] at h; cases h)
    refine ⟨_, _, pre101 _ ?_, hrun, hended, _, _, rfl, ?_, ⟨_, rfl⟩, hW, hsame.mono (by decide) (by decide)⟩
    · skip
      refine XS.istore X101.here hx rfl (hb hby at_221) rfl (l' := #[.val (.int p1), .val (.int p2), .val (.int p3), .val (.int p4), .val (.ref b2), .val (.int off), .val (.ref b20), .val (.int (bI ((((((¬ (off = (3 : Int32))) ∧ (((own_el off ((nar .byte p1.toInt8.toInt32)) ((nar .byte p2.toInt8.toInt32)) ((nar .byte p3.toInt8.toInt32))) &&& (255 : Int32)) = (own_ref (own_pick (off) (p1) (p2) (p3))))) ∧ (¬ (((own_el off ((nar .byte p1.toInt8.toInt32)) ((nar .byte p2.toInt8.toInt32)) ((nar .byte p3.toInt8.toInt32))) &&& (255 : Int32)) < (0 : Int32)) ∧ (¬ ((255 : Int32) < ((own_el off ((nar .byte p1.toInt8.toInt32)) ((nar .byte p2.toInt8.toInt32)) ((nar .byte p3.toInt8.toInt32))) &&& (255 : Int32)))))) ∧ (((off + (1 : Int32)) = (3 : Int32)) ↔ (off = (2 : Int32)))) ∧ (((own_el (off + (1 : Int32)) ((nar .byte p1.toInt8.toInt32)) ((nar .byte p2.toInt8.toInt32)) ((nar .byte p3.toInt8.toInt32))) &&& (255 : Int32)) = (own_ref (own_pick ((off + (1 : Int32))) (p1) (p2) (p3))))) ∧ ((((off + (1 : Int32)) + (1 : Int32)) = (3 : Int32)) ↔ ((off + (1 : Int32)) = (2 : Int32)))))), .val (.int ((own_el off ((nar .byte p1.toInt8.toInt32)) ((nar .byte p2.toInt8.toInt32)) ((nar .byte p3.toInt8.toInt32))) &&& (255 : Int32))), .val (.int ((own_el (off + (1 : Int32)) ((nar .byte p1.toInt8.toInt32)) ((nar .byte p2.toInt8.toInt32)) ((nar .byte p3.toInt8.toInt32))) &&& (255 : Int32)))]) rfl ?_
      show Steps p.tables e below (T101.setTop (mkF m 223 #[.val (.int p1), .val (.int p2), .val (.int p3), .val (.int p4), .val (.ref b2), .val (.int off), .val (.ref b20), .val (.int (bI ((((((¬ (off = (3 : Int32))) ∧ (((own_el off ((nar .byte p1.toInt8.toInt32)) ((nar .byte p2.toInt8.toInt32)) ((nar .byte p3.toInt8.toInt32))) &&& (255 : Int32)) = (own_ref (own_pick (off) (p1) (p2) (p3))))) ∧ (¬ (((own_el off ((nar .byte p1.toInt8.toInt32)) ((nar .byte p2.toInt8.toInt32)) ((nar .byte p3.toInt8.toInt32))) &&& (255 : Int32)) < (0 : Int32)) ∧ (¬ ((255 : Int32) < ((own_el off ((nar .byte p1.toInt8.toInt32)) ((nar .byte p2.toInt8.toInt32)) ((nar .byte p3.toInt8.toInt32))) &&& (255 : Int32)))))) ∧ (((off + (1 : Int32)) = (3 : Int32)) ↔ (off = (2 : Int32)))) ∧ (((own_el (off + (1 : Int32)) ((nar .byte p1.toInt8.toInt32)) ((nar .byte p2.toInt8.toInt32)) ((nar .byte p3.toInt8.toInt32))) &&& (255 : Int32)) = (own_ref (own_pick ((off + (1 : Int32))) (p1) (p2) (p3))))) ∧ ((((off + (1 : Int32)) + (1 : Int32)) = (3 : Int32)) ↔ ((off + (1 : Int32)) = (2 : Int32)))))), .val (.int ((own_el off ((nar .byte p1.toInt8.toInt32)) ((nar .byte p2.toInt8.toInt32)) ((nar .byte p3.toInt8.toInt32))) &&& (255 : Int32))), .val (.int ((own_el (off + (1 : Int32)) ((nar .byte p1.toInt8.toInt32)) ((nar .byte p2.toInt8.toInt32)) ((nar .byte p3.toInt8.toInt32))) &&& (255 : Int32)))] [])) _
      refine XS.iload X101.here hx rfl (hb hby at_223) rfl ?_
      show Steps p.tables e below (T101.setTop (mkF m 225 #[.val (.int p1), .val (.int p2), .val (.int p3), .val (.int p4), .val (.ref b2), .val (.int off), .val (.ref b20), .val (.int (bI ((((((¬ (off = (3 : Int32))) ∧ (((own_el off ((nar .byte p1.toInt8.toInt32)) ((nar .byte p2.toInt8.toInt32)) ((nar .byte p3.toInt8.toInt32))) &&& (255 : Int32)) = (own_ref (own_pick (off) (p1) (p2) (p3))))) ∧ (¬ (((own_el off ((nar .byte p1.toInt8.toInt32)) ((nar .byte p2.toInt8.toInt32)) ((nar .byte p3.toInt8.toInt32))) &&& (255 : Int32)) < (0 : Int32)) ∧ (¬ ((255 : Int32) < ((own_el off ((nar .byte p1.toInt8.toInt32)) ((nar .byte p2.toInt8.toInt32)) ((nar .byte p3.toInt8.toInt32))) &&& (255 : Int32)))))) ∧ (((off + (1 : Int32)) = (3 : Int32)) ↔ (off = (2 : Int32)))) ∧ (((own_el (off + (1 : Int32)) ((nar .byte p1.toInt8.toInt32)) ((nar .byte p2.toInt8.toInt32)) ((nar .byte p3.toInt8.toInt32))) &&& (255 : Int32)) = (own_ref (own_pick ((off + (1 : Int32))) (p1) (p2) (p3))))) ∧ ((((off + (1 : Int32)) + (1 : Int32)) = (3 : Int32)) ↔ ((off + (1 : Int32)) = (2 : Int32)))))), .val (.int ((own_el off ((nar .byte p1.toInt8.toInt32)) ((nar .byte p2.toInt8.toInt32)) ((nar .byte p3.toInt8.toInt32))) &&& (255 : Int32))), .val (.int ((own_el (off + (1 : Int32)) ((nar .byte p1.toInt8.toInt32)) ((nar .byte p2.toInt8.toInt32)) ((nar .byte p3.toInt8.toInt32))) &&& (255 : Int32)))] [(.int (bI ((((((¬ (off = (3 : Int32))) ∧ (((own_el off ((nar .byte p1.toInt8.toInt32)) ((nar .byte p2.toInt8.toInt32)) ((nar .byte p3.toInt8.toInt32))) &&& (255 : Int32)) = (own_ref (own_pick (off) (p1) (p2) (p3))))) ∧ (¬ (((own_el off ((nar .byte p1.toInt8.toInt32)) ((nar .byte p2.toInt8.toInt32)) ((nar .byte p3.toInt8.toInt32))) &&& (255 : Int32)) < (0 : Int32)) ∧ (¬ ((255 : Int32) < ((own_el off ((nar .byte p1.toInt8.toInt32)) ((nar .byte p2.toInt8.toInt32)) ((nar .byte p3.toInt8.toInt32))) &&& (255 : Int32)))))) ∧ (((off + (1 : Int32)) = (3 : Int32)) ↔ (off = (2 : Int32)))) ∧ (((own_el (off + (1 : Int32)) ((nar .byte p1.toInt8.toInt32)) ((nar .byte p2.toInt8.toInt32)) ((nar .byte p3.toInt8.toInt32))) &&& (255 : Int32)) = (own_ref (own_pick ((off + (1 : Int32))) (p1) (p2) (p3))))) ∧ ((((off + (1 : Int32)) + (1 : Int32)) = (3 : Int32)) ↔ ((off + (1 : Int32)) = (2 : Int32))))))])) _
      exact retN X101 hx (t := .boolean) Bd.returns (by simp) (hb hby at_225) hr
    · show Q0 Z p1 p2 p3 p4 h0 n0 _ T101.heap _
      rw [e101]
      exact ⟨bI_one (own_end2 hoff hc150_75), N101⟩
  · skip
    obtain ⟨fs, hr, hrun, hended, hW, hsame⟩ := X70.leave (v := some (.int (nar .boolean (bI ((((¬ (off = (3 : Int32))) ∧ (((own_el off ((nar .byte p1.toInt8.toInt32)) ((nar .byte p2.toInt8.toInt32)) ((nar .byte p3.toInt8.toInt32))) &&& (255 : Int32)) = (own_ref (own_pick (off) (p1) (p2) (p3))))) ∧ (¬ (((own_el off ((nar .byte p1.toInt8.toInt32)) ((nar .byte p2.toInt8.toInt32)) ((nar .byte p3.toInt8.toInt32))) &&& (255 : Int32)) < (0 : Int32)) ∧ (¬ ((255 : Int32) < ((own_el off ((nar .byte p1.toInt8.toInt32)) ((nar .byte p2.toInt8.toInt32)) ((nar .byte p3.toInt8.toInt32))) &&& (255 : Int32)))))) ∧ (((off + (1 : Int32)) = (3 : Int32)) ↔ (off = (2 : Int32)))))))) (fun h => by rw [Bd.returns] at h; cases h)
    refine ⟨_, _, pre74 _ ?_, hrun, hended, _, _, rfl, ?_, ⟨_, rfl⟩, hW, hsame.mono (by decide) (by decide)⟩
    · skip
      refine XS.icmpYes X70.here hx rfl (pc0 := 150) (pc' := 223) rfl (hb hby at_150) rfl (XT.ii_ge_t hc150_75) (by decide) (by decide) ?_
      show Steps p.tables e below (T70.setTop (mkF m 223 #[.val (.int p1), .val (.int p2), .val (.int p3), .val (.int p4), .val (.ref b2), .val (.int off), .val (.ref b20), .val (.int (bI ((((¬ (off = (3 : Int32))) ∧ (((own_el off ((nar .byte p1.toInt8.toInt32)) ((nar .byte p2.toInt8.toInt32)) ((nar .byte p3.toInt8.toInt32))) &&& (255 : Int32)) = (own_ref (own_pick (off) (p1) (p2) (p3))))) ∧ (¬ (((own_el off ((nar .byte p1.toInt8.toInt32)) ((nar .byte p2.toInt8.toInt32)) ((nar .byte p3.toInt8.toInt32))) &&& (255 : Int32)) < (0 : Int32)) ∧ (¬ ((255 : Int32) < ((own_el off ((nar .byte p1.toInt8.toInt32)) ((nar .byte p2.toInt8.toInt32)) ((nar .byte p3.toInt8.toInt32))) &&& (255 : Int32)))))) ∧ (((off + (1 : Int32)) = (3 : Int32)) ↔ (off = (2 : Int32)))))), .val (.int ((own_el off ((nar .byte p1.toInt8.toInt32)) ((nar .byte p2.toInt8.toInt32)) ((nar .byte p3.toInt8.toInt32))) &&& (255 : Int32))), .unset] [])) _
      refine XS.iload X70.here hx rfl (hb hby at_223) rfl ?_
      show Steps p.tables e below (T70.setTop (mkF m 225 #[.val (.int p1), .val (.int p2), .val (.int p3), .val (.int p4), .val (.ref b2), .val (.int off), .val (.ref b20), .val (.int (bI ((((¬ (off = (3 : Int32))) ∧ (((own_el off ((nar .byte p1.toInt8.toInt32)) ((nar .byte p2.toInt8.toInt32)) ((nar .byte p3.toInt8.toInt32))) &&& (255 : Int32)) = (own_ref (own_pick (off) (p1) (p2) (p3))))) ∧ (¬ (((own_el off ((nar .byte p1.toInt8.toInt32)) ((nar .byte p2.toInt8.toInt32)) ((nar .byte p3.toInt8.toInt32))) &&& (255 : Int32)) < (0 : Int32)) ∧ (¬ ((255 : Int32) < ((own_el off ((nar .byte p1.toInt8.toInt32)) ((nar .byte p2.toInt8.toInt32)) ((nar .byte p3.toInt8.toInt32))) &&& (255 : Int32)))))) ∧ (((off + (1 : Int32)) = (3 : Int32)) ↔ (off = (2 : Int32)))))), .val (.int ((own_el off ((nar .byte p1.toInt8.toInt32)) ((nar .byte p2.toInt8.toInt32)) ((nar .byte p3.toInt8.toInt32))) &&& (255 : Int32))), .unset] [(.int (bI ((((¬ (off = (3 : Int32))) ∧ (((own_el off ((nar .byte p1.toInt8.toInt32)) ((nar .byte p2.toInt8.toInt32)) ((nar .byte p3.toInt8.toInt32))) &&& (255 : Int32)) = (own_ref (own_pick (off) (p1) (p2) (p3))))) ∧ (¬ (((own_el off ((nar .byte p1.toInt8.toInt32)) ((nar .byte p2.toInt8.toInt32)) ((nar .byte p3.toInt8.toInt32))) &&& (255 : Int32)) < (0 : Int32)) ∧ (¬ ((255 : Int32) < ((own_el off ((nar .byte p1.toInt8.toInt32)) ((nar .byte p2.toInt8.toInt32)) ((nar .byte p3.toInt8.toInt32))) &&& (255 : Int32)))))) ∧ (((off + (1 : Int32)) = (3 : Int32)) ↔ (off = (2 : Int32))))))])) _
      exact retN X70 hx (t := .boolean) Bd.returns (by simp) (hb hby at_225) hr
    · show Q0 Z p1 p2 p3 p4 h0 n0 _ T70.heap _
      rw [e70]
      exact ⟨bI_one (own_end1 hoff), N70⟩
set_option maxRecDepth 65536 in
set_option maxHeartbeats 40000000 in
theorem comes_1 {Post : Tables → Env → Array Value → State → Outcome → State → Prop} (hpost : ∀ tb e args s v u, (limb_1_1.after args s (.returned v) u = true ∧ limb_1_2.after args s (.returned v) u = true ∧ True) → FrameEnd s (.returned v) u (Jvm.fieldLocs frame_1_writes args s ++ Jvm.arrayLocs frame_1_arrays args s ++ Jvm.staticLocs frame_1_statics s) 16 128 → Post tb e args s (.returned v) u) :
    ArmFor flags0 classFile x code maxLocals ret World_1 tables_1 room_1 Calls_1 rest_1 Pre_1 Post := by
  intro l hfl _ _ p e ha hc hk s m args below hf hA hF happ hP
  obtain ⟨hcalls, hrest, hpre⟩ := hP
  obtain ⟨-, -, -, hnamed, -, -, -, hat⟩ := (Spec.applies_iff hf).mp happ
  obtain ⟨hg, hn⟩ := and_e (Cond.before_iff.mp (show (Jvm.Cond.and given_1 narrow_1).before args s = true from hpre))
  obtain ⟨hcount, g0⟩ := and_e hg
  obtain ⟨ga0, g1⟩ := and_e g0
  obtain ⟨ga1, g2⟩ := and_e g1
  obtain ⟨ga2, g3⟩ := and_e g2
  have ga3 := g3
  obtain ⟨w0, w1, w2, w3, rfl⟩ : ∃ w0 w1 w2 w3 : Value, args = #[w0, w1, w2, w3] := by
    have hs : args.size = 4 := by simpa [Cond.value, given_1] using hcount
    obtain ⟨L⟩ := args
    match L, hs with
    | [w0, w1, w2, w3], _ => exact ⟨w0, w1, w2, w3, rfl⟩
  have hw := fun d (hd : d ∈ tables_1) => atoms_spec (ws := Jvm.Cond.code x code maxLocals ret :: tables_1) hat d (List.mem_cons_of_mem _ hd)
  have hfit : Fit s := fun {y c} hc i hi => by
    obtain ⟨ha, rfl⟩ := Array.getElem?_eq_some_iff.mp hc
    have q := List.all_eq_true.mp ((Array.all_eq_true_iff_forall_mem.mp hF) _ (Array.getElem_mem ha)) i (List.mem_range.mpr hi)
    simpa [Array.getElem?_eq_getElem hi] using q
  obtain ⟨i0, ei0⟩ := is_v ga0
  obtain rfl : w0 = (.int i0) := Option.some.inj ei0
  obtain ⟨i1, ei1⟩ := is_v ga1
  obtain rfl : w1 = (.int i1) := Option.some.inj ei1
  obtain ⟨i2, ei2⟩ := is_v ga2
  obtain rfl : w2 = (.int i2) := Option.some.inj ei2
  obtain ⟨i3, ei3⟩ := is_v ga3
  obtain rfl : w3 = (.int i3) := Option.some.inj ei3
  obtain ⟨n, o, h1, h2, h3, _, L, rfl, ⟨rfl, N⟩, hq⟩ := rm0 l s _ hw tables_1 i0 i1 i2 i3 s.heap s.heap.size (Nat.le_refl _) p e ha hc hk s m _ below hf ((Spec.applies_iff_loose hf).mp happ).1 ⟨rfl, State.Warmed39.refl s, rfl⟩ trivial
  refine ⟨n, _, h1, h2, h3, hpost _ _ _ _ _ _ ⟨Cond.after_iff.mpr rfl, Cond.after_iff.mpr (eq_i res_at (Term.int_eval (1)) rfl), trivial⟩ ⟨hq.1, hq.2.1, (hq.2.2.sift fun y hy => Or.inr (N y hy)).mono (by decide) (by decide)⟩⟩
theorem main_1_1 : Claimed_1_1 := comes_1 fun _ _ _ _ _ _ h hF => ⟨h.1, hF⟩
theorem main_1_2 : Claimed_1_2 := comes_1 fun _ _ _ _ _ _ h hF => ⟨h.2.1, hF⟩
end Jvm.Pilot.@@N@@
namespace Jvm.Pilot.@@N@@
open Jvm Jvm.ClassFile Sem Op Lib Jvm.Free Jvm.Stand Jvm.Pilot.@@N@@.Jvm.D
/-! MADE BY PROGRAM (witnessworld.py) out of the Statement's table words and the real class files: 9 classes; the members and pool entries that the words name. The judged class is class 1, her method 3. -/
namespace start1
open Jvm.ClassFile
def u (s : String) : CpInfo := .utf8 (stringToUtf16 s)
/-- a pool by its gaps: so many unusable entries, then the entry; so many at the end -/
def gap : Nat → List CpInfo → List CpInfo
  | 0, r => r
  | n + 1, r => .unusable :: gap n r
def poolList (es : List (Nat × CpInfo)) (last : Nat) : List CpInfo := es.foldr (fun e r => gap e.1 (e.2 :: r)) (gap last [])
def pool (es : List (Nat × CpInfo)) (last : Nat) : Array CpInfo := ⟨poolList es last⟩
def fileOf (pool : Array CpInfo) (this : Nat) (attrs : Array Attribute := #[]) (ms : Array MethodInfo := #[]) (fl : Nat := 33) (sup : Nat := 0) (ifs : Array Nat := #[]) (fds : Array FieldInfo := #[]) : ClassFile where
  minorVersion := 0
  majorVersion := 65
  constantPool := pool
  accessFlags := fl
  thisClass := this
  superClass := sup
  interfaces := ifs
  fields := fds
  methods := ms
  attributes := attrs
def plain (name : String) (sup : Option ClassId) : Class where
  name := name
  kind := .ordinary
  loader := none
  accessFlags := 33
  super := sup
  interfaces := #[]
  cf := none
  fields := #[]
  methods := #[]
  instanceTypes := #[]
  staticTypes := #[]
  resolved := #[]
  callSites := []
  init := .initialized
  statics := none
  mirror := none

def pool0 : Array CpInfo := pool [(5, u "<init>"), (0, u "()V"), (1, .class_ 10), (1, u "java/lang/Object")] 113

def k0c0 : Code := { maxStack := 0, maxLocals := 1, code := object_method_1_code, exceptionTable := #[], attributes := #[] }
def k0m0 : Method := { name := "<init>", desc := "()V", sig := { parameters := [], returnType := none }, accessFlags := 1, code := some k0c0 }
/-- java/lang/Object -/
def k0 : Class := { plain "java/lang/Object" none with
  accessFlags := 33
  interfaces := #[]
  cf := some (fileOf pool0 8 #[] #[{ accessFlags := 1, nameIndex := 5, descriptorIndex := 6, attributes := #[] }] 33 0 #[] #[])
  fields := #[]
  methods := #[k0m0]
  instanceTypes := #[]
  staticTypes := #[]
  resolved := Array.replicate 124 none
  statics := none }

def pool1 : Array CpInfo := pool [(2, .class_ 4), (1, u "java/lang/Object"), (0, u "<init>"), (0, u "()V"), (0, .integer 2147483647), (0, .class_ 9), (0, u "com/example/fir/fir/core/Decoder"), (0, .methodref 8 11), (0, .nameAndType 5 12), (0, u "([BI)V"), (0, .methodref 8 14), (0, .nameAndType 15 16), (0, u "atEnd"), (0, u "()Z"), (0, .methodref 8 18), (0, .nameAndType 19 20), (0, u "readByte"), (0, u "()I"), (0, .methodref 22 23), (0, .class_ 24), (0, .nameAndType 25 26), (0, u "com/example/fir/fir/core/DecoderReadBytePinLaw"), (0, u "pick"), (0, u "(IIII)I"), (0, .methodref 22 28), (0, .nameAndType 29 30), (0, u "ref"), (0, u "(I)I"), (3, u "law"), (0, u "(IIII)Z")] 4

def k1m0 : Method := { name := "<init>", desc := "()V", sig := { parameters := [], returnType := none }, accessFlags := 1, code := none }
def k1c1 : Code := { maxStack := 2, maxLocals := 2, code := method_2_code, exceptionTable := #[], attributes := #[] }
def k1m1 : Method := { name := "ref", desc := "(I)I", sig := { parameters := [.int], returnType := some .int }, accessFlags := 10, code := some k1c1 }
def k1c2 : Code := { maxStack := 2, maxLocals := 4, code := method_3_code, exceptionTable := #[], attributes := #[] }
def k1m2 : Method := { name := "pick", desc := "(IIII)I", sig := { parameters := [.int, .int, .int, .int], returnType := some .int }, accessFlags := 10, code := some k1c2 }
def k1c3 : Code := { maxStack := 5, maxLocals := 10, code := code, exceptionTable := #[], attributes := #[] }
def k1m3 : Method := { name := "law", desc := "(IIII)Z", sig := { parameters := [.int, .int, .int, .int], returnType := some .boolean }, accessFlags := 9, code := some k1c3 }
/-- com/example/fir/fir/core/DecoderReadBytePinLaw -/
def k1 : Class := { plain "com/example/fir/fir/core/DecoderReadBytePinLaw" (some 0) with
  accessFlags := 49
  interfaces := #[]
  cf := some (fileOf pool1 22 #[] #[{ accessFlags := 1, nameIndex := 5, descriptorIndex := 6, attributes := #[] }, { accessFlags := 10, nameIndex := 29, descriptorIndex := 30, attributes := #[] }, { accessFlags := 10, nameIndex := 25, descriptorIndex := 26, attributes := #[] }, { accessFlags := 9, nameIndex := 34, descriptorIndex := 35, attributes := #[] }] 49 2 #[] #[])
  fields := #[]
  methods := #[k1m0, k1m1, k1m2, k1m3]
  instanceTypes := #[]
  staticTypes := #[]
  resolved := Array.replicate 40 none
  statics := none }

def pool2 : Array CpInfo := pool [(1, .methodref 2 3), (0, .class_ 4), (0, .nameAndType 5 6), (0, u "java/lang/Object"), (0, u "<init>"), (0, u "()V"), (0, .fieldref 8 9), (0, .class_ 10), (0, .nameAndType 11 12), (0, u "com/example/fir/fir/core/Decoder"), (0, u "bytes"), (0, u "[B"), (0, .fieldref 8 14), (0, .nameAndType 15 16), (0, u "offset"), (0, u "I"), (2, u "BIG_ENDIAN"), (0, u "Ljava/lang/invoke/VarHandle;"), (49, u "([BI)V"), (2, u "readByte"), (0, u "()I"), (5, u "atEnd"), (0, u "()Z")] 3

def k2c0 : Code := { maxStack := 2, maxLocals := 3, code := prog_19_method_1_code, exceptionTable := #[], attributes := #[] }
def k2m0 : Method := { name := "<init>", desc := "([BI)V", sig := { parameters := [(.array .byte), .int], returnType := none }, accessFlags := 0, code := some k2c0 }
def k2c1 : Code := { maxStack := 5, maxLocals := 1, code := prog_19_method_2_code, exceptionTable := #[], attributes := #[] }
def k2m1 : Method := { name := "readByte", desc := "()I", sig := { parameters := [], returnType := some .int }, accessFlags := 0, code := some k2c1 }
def k2c2 : Code := { maxStack := 2, maxLocals := 1, code := prog_19_method_6_code, exceptionTable := #[], attributes := #[] }
def k2m2 : Method := { name := "atEnd", desc := "()Z", sig := { parameters := [], returnType := some .boolean }, accessFlags := 0, code := some k2c2 }
/-- com/example/fir/fir/core/Decoder -/
def k2 : Class := { plain "com/example/fir/fir/core/Decoder" (some 0) with
  accessFlags := 32
  interfaces := #[]
  cf := some (fileOf pool2 8 #[] #[{ accessFlags := 0, nameIndex := 5, descriptorIndex := 70, attributes := #[] }, { accessFlags := 0, nameIndex := 73, descriptorIndex := 74, attributes := #[] }, { accessFlags := 0, nameIndex := 80, descriptorIndex := 81, attributes := #[] }] 32 2 #[] #[{ accessFlags := 26, nameIndex := 19, descriptorIndex := 20, attributes := #[] }, { accessFlags := 18, nameIndex := 11, descriptorIndex := 12, attributes := #[] }, { accessFlags := 2, nameIndex := 15, descriptorIndex := 16, attributes := #[] }])
  fields := #[{ name := "BIG_ENDIAN", type := (.object "java/lang/invoke/VarHandle"), accessFlags := 26, slot := 0, constantValue := 0 }, { name := "bytes", type := (.array .byte), accessFlags := 18, slot := 0, constantValue := 0 }, { name := "offset", type := .int, accessFlags := 2, slot := 1, constantValue := 0 }]
  methods := #[k2m0, k2m1, k2m2]
  instanceTypes := #[(.array .byte), .int]
  staticTypes := #[(.object "java/lang/invoke/VarHandle")]
  resolved := Array.replicate 85 none
  statics := none }

def pool3 : Array CpInfo := pool [(1, u "java/lang/Cloneable"), (0, .class_ 1), (0, u "java/lang/Object"), (0, .class_ 3)] 3

/-- java/lang/Cloneable -/
def k3 : Class := { plain "java/lang/Cloneable" (some 0) with
  accessFlags := 1537
  interfaces := #[]
  cf := some (fileOf pool3 2 #[] #[] 1537 4 #[] #[])
  fields := #[]
  methods := #[]
  instanceTypes := #[]
  staticTypes := #[]
  resolved := Array.replicate 8 none
  statics := none }

def pool4 : Array CpInfo := pool [(1, u "java/io/Serializable"), (0, .class_ 1), (0, u "java/lang/Object"), (0, .class_ 3)] 3

/-- java/io/Serializable -/
def k4 : Class := { plain "java/io/Serializable" (some 0) with
  accessFlags := 1537
  interfaces := #[]
  cf := some (fileOf pool4 2 #[] #[] 1537 4 #[] #[])
  fields := #[]
  methods := #[]
  instanceTypes := #[]
  staticTypes := #[]
  resolved := Array.replicate 8 none
  statics := none }

/-- the primitive byte -/
def k5 : Class := { plain "byte" none with kind := .primitive 'B', accessFlags := 0x411 }
/-- [B -/
def k6 : Class := { plain "[B" (some 0) with kind := .array 5 .byte, interfaces := #[3, 4], accessFlags := 1041 }

/-- the primitive int -/
def k7 : Class := { plain "int" none with kind := .primitive 'I', accessFlags := 0x411 }
/-- [I -/
def k8 : Class := { plain "[I" (some 0) with kind := .array 7 .int, interfaces := #[3, 4], accessFlags := 1041 }

def heap : Heap := #[]
def classes : Array Class := #[k0, k1, k2, k3, k4, k5, k6, k7, k8]
def interned : List (Array UInt16 × Addr) := []
def slotsUsed : Nat := 0
def theMethod : MethodId := ⟨1, 3⟩
def args0 : Array Value := #[.int 5, .int 7, .int 3, .int 1]
def aboutOver (below : List Frame) : State where
  vm := { classes := classes, interned := interned.toArray }
  heap := heap
  slotsUsed := slotsUsed
  threads := #[{ frames := .invoking theMethod args0 :: below }]
def below0 : List Frame := [.native { method := ⟨0, 0⟩, args := #[] }]
def about1 : State := aboutOver below0
def p0 : Program := .bare "" "" ""
def e0 : Env := launch0.env 0 0 0
theorem w_frames : about1.frames = Frame.invoking theMethod args0 :: below0 := rfl
set_option maxRecDepth 65536 in
theorem w_args : argsFit about1.vm theMethod args0 = true := by decide +kernel
set_option maxRecDepth 65536 in
theorem w_heap : heapFits about1 = true := by decide +kernel
set_option maxRecDepth 65536 in
theorem w_runnable : about1.curStatus? = some .runnable := by decide +kernel
set_option maxRecDepth 65536 in
theorem w_alone : about1.alone = true := by decide +kernel
set_option maxRecDepth 65536 in
theorem w_named : about1.methodNamed? x = some theMethod := by decide +kernel
set_option maxRecDepth 65536 in
theorem w_hears : about1.hears theMethod below0 = true := by decide +kernel
set_option maxRecDepth 65536 in
theorem w_ripe : about1.ripe theMethod args0 below0 = true := by decide +kernel
theorem w_running : about1.status = .running := rfl
set_option maxRecDepth 65536 in
theorem w_room : about1.hasRoom e0.platform room_1 = true :=
  launch0.hasRoom_least _ room_1 (by decide +kernel) (by decide +kernel) (by decide +kernel) (by decide +kernel) (by decide +kernel) (by decide +kernel)
theorem allAtoms_all (ts : List Jvm.Cond) (a : Array Jvm.Value) (st : Jvm.State) : (allAtoms ts).before a st = ts.all (fun c => c.before a st) := by
  induction ts with
  | nil => rfl
  | cons c t ih =>
    show (Jvm.Cond.and c (allAtoms t)).before a st = _
    rw [Jvm.Cond.before_and, ih, List.all_cons]
def words1 : List Jvm.Cond := Jvm.Cond.code x code maxLocals ret :: tables_1
/-- a 'code' word, met by the world's own term for the bytes: nothing is compared byte by byte -/
theorem code_word {y : MethodName} {bytes : ByteArray} {mx : Nat} {rt : Option FieldType} {a : Array Value} {s : State} {m : MethodId} {meth : Method} {c : Code} (h1 : s.methodNamed? y = some m) (h2 : s.vm.method? m = some meth) (h3 : meth.code = some c) (h4 : c.code = bytes)
    (h5 : (c.maxLocals == mx && c.exceptionTable.isEmpty && decide (c.maxStack ≤ mostOperands) && decide (meth.sig.returnType = rt) && !meth.locks && decide (parseMethodDescriptor y.desc = some meth.sig)) = true) : (Jvm.Cond.code y bytes mx rt).before a s = true := by
  simp only [Bool.and_eq_true, beq_iff_eq, Bool.not_eq_true', decide_eq_true_eq] at h5
  obtain ⟨⟨⟨⟨⟨g1, g2⟩, g3⟩, g4⟩, g5⟩, g6⟩ := h5
  simp [Cond.before, Cond.holds, Cond.value, h1, h2, h3, h4, g1, g2, g3, g4, g5, g6]
def isCode : Jvm.Cond → Bool
  | .code _ _ _ _ => true
  | _ => false
theorem all_split {L : List Jvm.Cond} {P : Jvm.Cond → Bool} (h1 : L.all (fun c => isCode c || P c) = true) (h2 : ∀ c ∈ L.filter isCode, P c = true) : L.all P = true := by
  refine List.all_eq_true.mpr fun c hc => ?_
  have h := List.all_eq_true.mp h1 c hc
  rcases Bool.eq_false_or_eq_true (isCode c) with hi | hi
  · exact h2 c (List.mem_filter.mpr ⟨hc, hi⟩)
  · simpa [hi] using h
set_option maxRecDepth 65536 in
theorem w_c0 : (Jvm.Cond.code x code maxLocals ret).before args0 about1 = true := code_word (m := ⟨1, 3⟩) (meth := k1m3) (c := k1c3) (by decide +kernel) rfl rfl rfl (by decide +kernel)
set_option maxRecDepth 65536 in
theorem w_c1 : (Jvm.Cond.code ({ cls := "com/example/fir/fir/core/Decoder", name := "<init>", desc := "([BI)V" } : Jvm.MethodName) prog_19_method_1_code (3 : Nat) (Option.none : Option Jvm.ClassFile.FieldType)).before args0 about1 = true := code_word (m := ⟨2, 0⟩) (meth := k2m0) (c := k2c0) (by decide +kernel) rfl rfl rfl (by decide +kernel)
set_option maxRecDepth 65536 in
theorem w_c2 : (Jvm.Cond.code ({ cls := "java/lang/Object", name := "<init>", desc := "()V" } : Jvm.MethodName) object_method_1_code (1 : Nat) (Option.none : Option Jvm.ClassFile.FieldType)).before args0 about1 = true := code_word (m := ⟨0, 0⟩) (meth := k0m0) (c := k0c0) (by decide +kernel) rfl rfl rfl (by decide +kernel)
set_option maxRecDepth 65536 in
theorem w_c3 : (Jvm.Cond.code ({ cls := "com/example/fir/fir/core/Decoder", name := "atEnd", desc := "()Z" } : Jvm.MethodName) prog_19_method_6_code (1 : Nat) (Option.some Jvm.ClassFile.FieldType.boolean)).before args0 about1 = true := code_word (m := ⟨2, 2⟩) (meth := k2m2) (c := k2c2) (by decide +kernel) rfl rfl rfl (by decide +kernel)
set_option maxRecDepth 65536 in
theorem w_c4 : (Jvm.Cond.code ({ cls := "com/example/fir/fir/core/Decoder", name := "readByte", desc := "()I" } : Jvm.MethodName) prog_19_method_2_code (1 : Nat) (Option.some Jvm.ClassFile.FieldType.int)).before args0 about1 = true := code_word (m := ⟨2, 1⟩) (meth := k2m1) (c := k2c1) (by decide +kernel) rfl rfl rfl (by decide +kernel)
set_option maxRecDepth 65536 in
theorem w_c5 : (Jvm.Cond.code ({ cls := "com/example/fir/fir/core/DecoderReadBytePinLaw", name := "pick", desc := "(IIII)I" } : Jvm.MethodName) method_3_code (4 : Nat) (Option.some Jvm.ClassFile.FieldType.int)).before args0 about1 = true := code_word (m := ⟨1, 2⟩) (meth := k1m2) (c := k1c2) (by decide +kernel) rfl rfl rfl (by decide +kernel)
set_option maxRecDepth 65536 in
theorem w_c6 : (Jvm.Cond.code ({ cls := "com/example/fir/fir/core/DecoderReadBytePinLaw", name := "ref", desc := "(I)I" } : Jvm.MethodName) method_2_code (2 : Nat) (Option.some Jvm.ClassFile.FieldType.int)).before args0 about1 = true := code_word (m := ⟨1, 1⟩) (meth := k1m1) (c := k1c1) (by decide +kernel) rfl rfl rfl (by decide +kernel)
def codes1 : List Jvm.Cond := [Jvm.Cond.code x code maxLocals ret, Jvm.Cond.code ({ cls := "com/example/fir/fir/core/Decoder", name := "<init>", desc := "([BI)V" } : Jvm.MethodName) prog_19_method_1_code (3 : Nat) (Option.none : Option Jvm.ClassFile.FieldType), Jvm.Cond.code ({ cls := "java/lang/Object", name := "<init>", desc := "()V" } : Jvm.MethodName) object_method_1_code (1 : Nat) (Option.none : Option Jvm.ClassFile.FieldType), Jvm.Cond.code ({ cls := "com/example/fir/fir/core/Decoder", name := "atEnd", desc := "()Z" } : Jvm.MethodName) prog_19_method_6_code (1 : Nat) (Option.some Jvm.ClassFile.FieldType.boolean), Jvm.Cond.code ({ cls := "com/example/fir/fir/core/Decoder", name := "readByte", desc := "()I" } : Jvm.MethodName) prog_19_method_2_code (1 : Nat) (Option.some Jvm.ClassFile.FieldType.int), Jvm.Cond.code ({ cls := "com/example/fir/fir/core/DecoderReadBytePinLaw", name := "pick", desc := "(IIII)I" } : Jvm.MethodName) method_3_code (4 : Nat) (Option.some Jvm.ClassFile.FieldType.int), Jvm.Cond.code ({ cls := "com/example/fir/fir/core/DecoderReadBytePinLaw", name := "ref", desc := "(I)I" } : Jvm.MethodName) method_2_code (2 : Nat) (Option.some Jvm.ClassFile.FieldType.int)]
set_option maxRecDepth 65536 in
theorem codes_eq : words1.filter isCode = codes1 := rfl
theorem w_codes : ∀ c ∈ words1.filter isCode, c.before args0 about1 = true := by
  rw [codes_eq]
  intro c hc
  simp only [codes1, List.mem_cons, List.not_mem_nil, or_false] at hc
  rcases hc with rfl | rfl | rfl | rfl | rfl | rfl | rfl
  · exact w_c0
  · exact w_c1
  · exact w_c2
  · exact w_c3
  · exact w_c4
  · exact w_c5
  · exact w_c6
set_option maxRecDepth 65536 in
theorem w_t1 : (words1.take 24).all (fun c => isCode c || c.before args0 about1) = true := by decide +kernel
set_option maxRecDepth 65536 in
theorem w_t2 : (words1.drop 24).all (fun c => isCode c || c.before args0 about1) = true := by decide +kernel
theorem w_tables : (allAtoms (Jvm.Cond.code x code maxLocals ret :: tables_1)).before args0 about1 = true := by
  rw [allAtoms_all]
  show words1.all (fun c => c.before args0 about1) = true
  refine all_split ?_ w_codes
  rw [← List.take_append_drop 24 words1, List.all_append, w_t1, w_t2]
  rfl
set_option maxRecDepth 65536 in
theorem w_case : (Jvm.Cond.and given_1 narrow_1).before args0 about1 = true := by decide +kernel
theorem w_applies : (headSpec (Jvm.Cond.code x code maxLocals ret :: tables_1) room_1).applies x e0.platform about1 = true :=
  (Spec.applies_iff w_frames).mpr ⟨w_running, w_runnable, w_alone, w_named, w_hears, w_ripe, w_room, w_tables⟩
theorem atStart : AtStart classFile x code maxLocals ret World_1 tables_1 room_1 Calls_1 rest_1 Pre_1 launch0 p0 e0 about1 theMethod args0 below0 :=
  ⟨lists_1, trivial, launch0.admits_env _ _ _, launch0.least_env, fairChoices_fair.cas, fairChoices_fair.clock, w_frames, w_args, w_heap, w_applies, trivial, trivial, w_case⟩
end start1
theorem witness_1 : WitnessClaimed_1 := ⟨start1.p0, start1.e0, start1.about1, start1.theMethod, start1.args0, start1.below0, start1.atStart⟩
end Jvm.Pilot.@@N@@
