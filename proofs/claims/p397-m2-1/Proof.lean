import JvmDerived
import JvmDerived.Pilot.@@N@@Statement
import JvmDerived.Pilot.@@N@@Code
set_option linter.unusedVariables false
set_option linter.unusedSimpArgs false
namespace Jvm.RoadKit
open Sem ClassFile Op Lib Jvm.Stand Jvm.Free Jvm.LawKit
section New
variable {p : Program} {l : Launch} {e : Env} {R : Room} {s : State} {m : MethodId} {args : Array Value} {below : List Frame} {meth : Method} {c : Code} {T : State} {locs : List Loc} {cells slots : Nat}
theorem retI (X : Stand p l e R s m args below meth c T locs cells slots) (hx : p.tables.exec = Jvm.exec) {pc : Nat} {Ls : Array Slot} {z : Int32} {rest : List Value} (hret : meth.sig.returnType = some .int) (hd : decode c.code pc = .ok (.ireturn, 1)) {fs : List Frame}
    (hl : ∀ (f : JFrame) (acts : List Action), f.method = m → f.locked = none → f.entered = [] → (doReturn e (T.setTop f) acts (some (.int z))).1 = T.setFrames fs) : Steps p.tables e below (T.setTop (mkF m pc Ls (.int z :: rest))) (T.setFrames fs) := by
  have hm' : T.vm.method? m = some meth := X.method'
  have hn : narrow .int (.int z) = .int z := rfl
  show Steps p.tables e below (T.setTop { method := m, pc := pc, locals := Ls, stack := _ :: rest, locked := none }) _
  jvm_step X.here [X.here.top, hx, hd, hm', hret, hn]
  first | (intro acts; rw [hl _ acts rfl rfl rfl]) | rw [hl _ _ rfl rfl rfl]
  exact Steps.refl _
end New
theorem own_sta_keep {Z : State} {h h' : Heap} {C n d : String} {v : Value} {ws : List Addr} (F : Sta Z h C n d v) (K : Keep h h' ws) (q : ∀ x ∈ ws, ∀ c : Cell, h[x]? = some c → c.vm.isStatics = false) : Sta Z h' C n d v := by
  obtain ⟨cf, i, k, f, st, cell, h1, h2, h3, h4, h5, h6, h7⟩ := F
  exact ⟨cf, i, k, f, st, cell, h1, h2, h3, h4, K.2.1 st cell h5 (fun hm => by rw [q st hm cell h5] at h6; cases h6), h6, h7⟩
theorem own_plain_Exa {Z : State} {h : Heap} {a : Addr} {C : String} (F : Exa Z h a C) : ∀ c : Cell, h[a]? = some c → c.vm.isStatics = false := fun c hc => by
  obtain ⟨cell, _, h1, -, -, h4, -⟩ := F
  cases h1.symm.trans hc; exact h4
theorem own_plain_Arv {Z : State} {h : Heap} {a : Addr} {k : ClassId} {ty : FieldType} {n : Int32} {vs : List Value} {d : Value} (F : Arv Z h a k ty n vs d) : ∀ c : Cell, h[a]? = some c → c.vm.isStatics = false := fun c hc => by
  obtain ⟨cell, A, -⟩ := F
  cases A.1.symm.trans hc; exact A.plain
end Jvm.RoadKit
/- laws to paste: Road.backV, Road.lenW, Road.eqW, Road.codOf (cut by pick.py; bodies as the Statement names them) -/
namespace Jvm.Pilot.@@N@@
namespace StrChars
open Jvm Sem ClassFile Op Lib Jvm.Stand Jvm.Free.XT Jvm.Free.ALB Jvm.Free.JM Jvm.Free
open Jvm.Lib.Cold (StaticIs)
/-- a char array whose places are chars -/
def Ch (a : Addr) (A : Cell) (U : State) : Prop := Arr .char a A U ∧ Typed .char A
theorem Ch.mv {a : Addr} {A : Cell} {U U' : State} (h : Ch a A U) (hal : U.vm.Alike U'.vm) (hh : U'.heap = U.heap) : Ch a A U' := ⟨h.1.mv hal hh, h.2⟩
theorem Ch.keep {a : Addr} {A : Cell} {U U' : State} (h : Ch a A U) (hal : U.vm.Alike U'.vm) (hk : U'.heap[a]? = some A) : Ch a A U' := ⟨h.1.keep hal hk, h.2⟩
/-- what place i of a char[]'s cell holds -/
def cv (A : Cell) (i : Nat) : Int32 := match A.slots[i]? with | some (.int x) => x | _ => 0
theorem Ch.get {a : Addr} {A : Cell} {U : State} (h : Ch a A U) {i : Nat} (hi : i < A.slots.size) : A.slots[i]? = some (.int (cv A i)) := by
  have e := Array.getElem?_eq_getElem hi
  have f := h.2 i _ e
  unfold cv; rw [e]
  generalize A.slots[i] = v at f
  cases v <;> simp [fits] at f ⊢
/-- the byte that i2b leaves of a char -/
def lo8 (x : Int32) : Int32 := x.toInt8.toInt32
theorem fits_lo8 (y : Int32) : fits .byte (.int (lo8 y)) = true := by
  have h1 := y.toInt8.le_toInt
  have h2 := y.toInt8.toInt_lt
  simp only [lo8, fits, Bool.and_eq_true, decide_eq_true_eq, Int32.le_iff_toInt_le, Int8.toInt_toInt32, show (-128 : Int32).toInt = -128 from by decide, show (127 : Int32).toInt = 127 from by decide]
  omega
/-- A' is A but that each place j of lo .. hi - 1 holds f j -/
def Laid (A A' : Cell) (lo hi : Nat) (f : Nat → Value) : Prop := A'.cls = A.cls ∧ A'.vm = A.vm ∧ A'.slots.size = A.slots.size ∧ ∀ i, A'.slots[i]? = if lo ≤ i ∧ i < hi then some (f i) else A.slots[i]?
theorem Laid.zero (A : Cell) (lo : Nat) (f : Nat → Value) : Laid A A lo (lo + 0) f := ⟨rfl, rfl, rfl, fun i => by rw [if_neg (by omega)]⟩
theorem Laid.step {A Ak : Cell} {lo k : Nat} {f : Nat → Value} {v : Value} (h : Laid A Ak lo k f) (hlo : lo ≤ k) (hk : k < Ak.slots.size) (hv : v = f k) : Laid A (Ak.setSlot k v) lo (k + 1) f := by
  refine ⟨h.1, h.2.1, by simpa [Cell.setSlot] using h.2.2.1, fun i => ?_⟩
  by_cases e : k = i
  · subst e; rw [Cell.slots_setSlot_self v hk, if_pos (by omega), hv]
  · rw [Cell.slots_setSlot_ne v e, h.2.2.2 i]
    by_cases q : lo ≤ i ∧ i < k
    · rw [if_pos q, if_pos (by omega)]
    · rw [if_neg q, if_neg (by omega)]
def U16 : String := "java/lang/StringUTF16"
namespace Cmp5
def yN : MethodName := ⟨"java/lang/StringUTF16", "compress", "([CI[BII)I"⟩
abbrev yB : ByteArray := jdk_52_method_21_code
theorem d0 : decode yB 0 = .ok (.iconst 0, 1) := by decide +kernel
theorem d1 : decode yB 1 = .ok (.istore 5, 2) := by decide +kernel
theorem d3 : decode yB 3 = .ok (.iload 5, 2) := by decide +kernel
theorem d5 : decode yB 5 = .ok (.iload 4, 2) := by decide +kernel
theorem d7 : decode yB 7 = .ok (.if_icmp (.ge) 37, 3) := by decide +kernel
theorem d10 : decode yB 10 = .ok (.aload_n 0, 1) := by decide +kernel
theorem d11 : decode yB 11 = .ok (.iload_n 1, 1) := by decide +kernel
theorem d12 : decode yB 12 = .ok (.caload, 1) := by decide +kernel
theorem d13 : decode yB 13 = .ok (.istore 6, 2) := by decide +kernel
theorem d15 : decode yB 15 = .ok (.iload 6, 2) := by decide +kernel
theorem d17 : decode yB 17 = .ok (.sipush 255, 3) := by decide +kernel
theorem d20 : decode yB 20 = .ok (.if_icmp (.le) 6, 3) := by decide +kernel
theorem d26 : decode yB 26 = .ok (.aload_n 2, 1) := by decide +kernel
theorem d27 : decode yB 27 = .ok (.iload_n 3, 1) := by decide +kernel
theorem d28 : decode yB 28 = .ok (.iload 6, 2) := by decide +kernel
theorem d30 : decode yB 30 = .ok (.i2b, 1) := by decide +kernel
theorem d31 : decode yB 31 = .ok (.bastore, 1) := by decide +kernel
theorem d32 : decode yB 32 = .ok (.iinc 1 1, 3) := by decide +kernel
theorem d35 : decode yB 35 = .ok (.iinc 3 1, 3) := by decide +kernel
theorem d38 : decode yB 38 = .ok (.iinc 5 1, 3) := by decide +kernel
theorem d41 : decode yB 41 = .ok (.goto (-38), 3) := by decide +kernel
theorem d44 : decode yB 44 = .ok (.iload 4, 2) := by decide +kernel
theorem d46 : decode yB 46 = .ok (.ireturn, 1) := by decide +kernel
def site : List Cond := []
def tab : Cond := tabOf yN yB 7 (some .int) site
def P (b : Addr) (A : Cell) (d : Addr) (B : Cell) (o q len : Nat) (args : Array Value) (s : State) : Prop := args = #[.ref b, .int (Int32.ofNat o), .ref d, .int (Int32.ofNat q), .int (Int32.ofNat len)] ∧ Ch b A s ∧ Arr .byte d B s ∧ b ≠ d ∧ o + len ≤ A.slots.size ∧ q + len ≤ B.slots.size ∧ ∀ i, i < len → ¬ 255 < cv A (o + i)
def E (b : Addr) (A : Cell) (d : Addr) (B : Cell) (o q len : Nat) (r : Option Value) (s u : State) : Prop := r = some (.int (Int32.ofNat len)) ∧ ∃ B', Put d B' s u ∧ Laid B B' q (q + len) (fun j => Value.int (lo8 (cv A (o + (j - q)))))
/-- no char of the range above 255: len; the places written hold each char's low byte -/
theorem law (l : Launch) (b : Addr) (A : Cell) (d : Addr) (B : Cell) (o q len : Nat) : Law l yN 5 5 0 0 yB 7 (some .int) site (P b A d B o q len) (E b A d B o q len) (copyLocs d q len) 0 0 := by
  refine Law.of_walk (plainFor_of_name (by decide +kernel)) (by decide +kernel) (by decide +kernel) (by decide) (fun _ _ h => by rw [h.1]; rfl) (fun _ U U' hal hh h => ⟨h.1, h.2.1.mv hal hh, h.2.2.1.mv hal hh, h.2.2.2⟩) (fun r U U' V V' h1 hal h2 h => ⟨h.1, h.2.elim fun B' q => ⟨B', q.1.mv h1 h2, q.2⟩⟩) ?_
  intro p e s m args below meth c s₁ X0 hexec hbytes hml hret hlk hnm hown hh0 W hP
  obtain ⟨rfl, hA, hB, hne, l1, l2, hp⟩ := hP
  have c1 : Steps p.tables e below (s₁.setTop (entryFrame m #[.ref b, .int (Int32.ofNat o), .ref d, .int (Int32.ofNat q), .int (Int32.ofNat len)] 7)) (s₁.setTop (mkF m 0 #[.val (.ref b), .val (.int (Int32.ofNat o)), .val (.ref d), .val (.int (Int32.ofNat q)), .val (.int (Int32.ofNat len)), .unset, .unset] [])) := entry rfl
  have hA0 := hA.1.mv X0.warmed.alike hh0
  have hB0 := hB.mv X0.warmed.alike hh0
  have a31 := hA.1.2.2.2
  have c2 : Steps p.tables e below (s₁.setTop (entryFrame m #[.ref b, .int (Int32.ofNat o), .ref d, .int (Int32.ofNat q), .int (Int32.ofNat len)] 7)) (s₁.setTop (mkF m 3 #[.val (.ref b), .val (.int (Int32.ofNat o)), .val (.ref d), .val (.int (Int32.ofNat q)), .val (.int (Int32.ofNat len)), .val (.int 0), .unset] [])) := c1.trans (by
    refine iconstV X0.here hexec rfl 0 (hb hbytes d0) (by decide) ?_
    refine XS.istore X0.here hexec rfl (hb hbytes d1) rfl rfl ?_
    exact Steps.refl _)
  have loop : ∀ (r i : Nat), i + r = len → ∀ (z : Slot), (z = .unset ∨ ∃ w, z = .val w ∧ w.category = 1) → ∀ (Tl : State) (Bk : Cell), Stand p l e { frames := 0, locals := 0, cells := 0, slots := 0 } s m #[.ref b, .int (Int32.ofNat o), .ref d, .int (Int32.ofNat q), .int (Int32.ofNat len)] below meth c Tl ([] ++ copyLocs d q i) 0 0 → Put d Bk s₁ Tl → Laid B Bk q (q + i) (fun j => Value.int (lo8 (cv A (o + (j - q))))) →
      Steps p.tables e below (s₁.setTop (entryFrame m #[.ref b, .int (Int32.ofNat o), .ref d, .int (Int32.ofNat q), .int (Int32.ofNat len)] 7)) (Tl.setTop (mkF m 3 #[.val (.ref b), .val (.int (Int32.ofNat (o + i))), .val (.ref d), .val (.int (Int32.ofNat (q + i))), .val (.int (Int32.ofNat len)), .val (.int (Int32.ofNat i)), z] [])) → ∃ (T' : State) (B' : Cell) (z' : Slot), Stand p l e { frames := 0, locals := 0, cells := 0, slots := 0 } s m #[.ref b, .int (Int32.ofNat o), .ref d, .int (Int32.ofNat q), .int (Int32.ofNat len)] below meth c T' ([] ++ copyLocs d q len) 0 0 ∧ Put d B' s₁ T' ∧ Laid B B' q (q + len) (fun j => Value.int (lo8 (cv A (o + (j - q))))) ∧
      Steps p.tables e below (s₁.setTop (entryFrame m #[.ref b, .int (Int32.ofNat o), .ref d, .int (Int32.ofNat q), .int (Int32.ofNat len)] 7)) (T'.setTop (mkF m 3 #[.val (.ref b), .val (.int (Int32.ofNat (o + len))), .val (.ref d), .val (.int (Int32.ofNat (q + len))), .val (.int (Int32.ofNat len)), .val (.int (Int32.ofNat len)), z'] [])) := by
    intro r
    induction r with
    | zero =>
      intro i hi z hz Tl Bk Xl pl fl cl
      have hil : i = len := by omega
      rw [hil] at Xl fl cl
      exact ⟨Tl, Bk, z, Xl, pl, fl, cl⟩
    | succ r ih =>
      intro i hi z hz Tl Bk Xl pl fl cl
      have all := X0.warmed.alike.symm.trans Xl.warmed.alike
      have hAl := hA0.keep all (pl.other hne hA0.1)
      have hBk := hB0.like all pl.1 fl.1 fl.2.1 fl.2.2.1
      have hlt : q + i < Bk.slots.size := by rw [fl.2.2.1]; omega
      have c3 : Steps p.tables e below (s₁.setTop (entryFrame m #[.ref b, .int (Int32.ofNat o), .ref d, .int (Int32.ofNat q), .int (Int32.ofNat len)] 7)) (Tl.setTop (mkF m 12 #[.val (.ref b), .val (.int (Int32.ofNat (o + i))), .val (.ref d), .val (.int (Int32.ofNat (q + i))), .val (.int (Int32.ofNat len)), .val (.int (Int32.ofNat i)), z] [.int (Int32.ofNat (o + i)), .ref b])) := cl.trans (by
        refine XS.iload Xl.here hexec rfl (hb hbytes d3) rfl ?_
        refine XS.iload Xl.here hexec rfl (hb hbytes d5) rfl ?_
        refine XS.icmpNo Xl.here hexec rfl (hb hbytes d7) rfl (ii_ge_f (lt32 (by omega) (by omega))) ?_
        refine XS.aloadN Xl.here hexec rfl (hb hbytes d10) rfl rfl ?_
        refine XS.iloadN Xl.here hexec rfl (hb hbytes d11) rfl ?_
        exact Steps.refl _)
      have c4 : Steps p.tables e below (s₁.setTop (entryFrame m #[.ref b, .int (Int32.ofNat o), .ref d, .int (Int32.ofNat q), .int (Int32.ofNat len)] 7)) (Tl.setTop (mkF m 13 #[.val (.ref b), .val (.int (Int32.ofNat (o + i))), .val (.ref d), .val (.int (Int32.ofNat (q + i))), .val (.int (Int32.ofNat len)), .val (.int (Int32.ofNat i)), z] [.int (cv A (o + i))])) := c3.trans (by
        refine Xl.aget hexec hAl rfl (hA.get (i := o + i) (by omega)) rfl rfl (hb hbytes d12) ?_
        exact Steps.refl _)
      have c5 : Steps p.tables e below (s₁.setTop (entryFrame m #[.ref b, .int (Int32.ofNat o), .ref d, .int (Int32.ofNat q), .int (Int32.ofNat len)] 7)) (Tl.setTop (mkF m 15 #[.val (.ref b), .val (.int (Int32.ofNat (o + i))), .val (.ref d), .val (.int (Int32.ofNat (q + i))), .val (.int (Int32.ofNat len)), .val (.int (Int32.ofNat i)), .val (.int (cv A (o + i)))] [])) := c4.trans (by
        refine XS.istoreS Xl.here hexec rfl (hb hbytes d13) rfl rfl hz ?_
        exact Steps.refl _)
      have c6 : Steps p.tables e below (s₁.setTop (entryFrame m #[.ref b, .int (Int32.ofNat o), .ref d, .int (Int32.ofNat q), .int (Int32.ofNat len)] 7)) (Tl.setTop (mkF m 31 #[.val (.ref b), .val (.int (Int32.ofNat (o + i))), .val (.ref d), .val (.int (Int32.ofNat (q + i))), .val (.int (Int32.ofNat len)), .val (.int (Int32.ofNat i)), .val (.int (cv A (o + i)))] [.int (lo8 (cv A (o + i))), .int (Int32.ofNat (q + i)), .ref d])) := c5.trans (by
        refine XS.iload Xl.here hexec rfl (hb hbytes d15) rfl ?_
        refine sipushV Xl.here hexec rfl 255 (hb hbytes d17) (by decide) ?_
        refine XS.icmpYes Xl.here hexec rfl (pc0 := 20) rfl (hb hbytes d20) rfl (ii_le_t (hp i (by omega))) (by decide) rfl ?_
        refine XS.aloadN Xl.here hexec rfl (hb hbytes d26) rfl rfl ?_
        refine XS.iloadN Xl.here hexec rfl (hb hbytes d27) rfl ?_
        refine XS.iload Xl.here hexec rfl (hb hbytes d28) rfl ?_
        refine i2b Xl.here hexec rfl (hb hbytes d30) rfl ?_
        exact Steps.refl _)
      obtain ⟨T7, X7, p7, st7⟩ := Xl.aput hexec hBk rfl hlt rfl (fits_lo8 (cv A (o + i))) (g := (mkF m 31 #[.val (.ref b), .val (.int (Int32.ofNat (o + i))), .val (.ref d), .val (.int (Int32.ofNat (q + i))), .val (.int (Int32.ofNat len)), .val (.int (Int32.ofNat i)), .val (.int (cv A (o + i)))] [.int (lo8 (cv A (o + i))), .int (Int32.ofNat (q + i)), .ref d])) rfl (rest := []) rfl (hb hbytes d31)
      have c8 : Steps p.tables e below (s₁.setTop (entryFrame m #[.ref b, .int (Int32.ofNat o), .ref d, .int (Int32.ofNat q), .int (Int32.ofNat len)] 7)) (T7.setTop (mkF m 32 #[.val (.ref b), .val (.int (Int32.ofNat (o + i))), .val (.ref d), .val (.int (Int32.ofNat (q + i))), .val (.int (Int32.ofNat len)), .val (.int (Int32.ofNat i)), .val (.int (cv A (o + i)))] [])) := c6.trans (st7 _ (Steps.refl _))
      have c9 : Steps p.tables e below (s₁.setTop (entryFrame m #[.ref b, .int (Int32.ofNat o), .ref d, .int (Int32.ofNat q), .int (Int32.ofNat len)] 7)) (T7.setTop (mkF m 3 #[.val (.ref b), .val (.int (Int32.ofNat (o + i) + 1)), .val (.ref d), .val (.int (Int32.ofNat (q + i) + 1)), .val (.int (Int32.ofNat len)), .val (.int (Int32.ofNat i + 1)), .val (.int (cv A (o + i)))] [])) := c8.trans (by
        refine iincV X7.here hexec rfl 1 (hb hbytes d32) (by decide) rfl rfl ?_
        refine iincV X7.here hexec rfl 1 (hb hbytes d35) (by decide) rfl rfl ?_
        refine iincV X7.here hexec rfl 1 (hb hbytes d38) (by decide) rfl rfl ?_
        refine XS.goto X7.here hexec rfl (pc0 := 41) rfl (hb hbytes d41) (by decide) rfl ?_
        exact Steps.refl _)
      have c10 : Steps p.tables e below (s₁.setTop (entryFrame m #[.ref b, .int (Int32.ofNat o), .ref d, .int (Int32.ofNat q), .int (Int32.ofNat len)] 7)) (T7.setTop (mkF m 3 #[.val (.ref b), .val (.int (Int32.ofNat (o + (i + 1)))), .val (.ref d), .val (.int (Int32.ofNat (q + (i + 1)))), .val (.int (Int32.ofNat len)), .val (.int (Int32.ofNat (i + 1))), .val (.int (cv A (o + i)))] [])) := by
        have := c9
        rw [succ32, succ32, succ32] at this
        exact this
      exact ih (i + 1) (by omega) _ (Or.inr ⟨_, rfl, rfl⟩) T7 _ (by rw [copyLocs_step, ← List.append_assoc]; exact X7) (pl.trans p7) (fl.step (by omega) hlt (by simp)) c10
  obtain ⟨T9, B9, z9, X9, p9, f9, g9⟩ := loop len 0 (by omega) .unset (Or.inl rfl) s₁ B (by simpa [copyLocs] using X0) ⟨hB0.1, fun _ _ => rfl, rfl⟩ (Laid.zero _ _ _) c2
  have c11 : Steps p.tables e below (s₁.setTop (entryFrame m #[.ref b, .int (Int32.ofNat o), .ref d, .int (Int32.ofNat q), .int (Int32.ofNat len)] 7)) (T9.setTop (mkF m 46 #[.val (.ref b), .val (.int (Int32.ofNat (o + len))), .val (.ref d), .val (.int (Int32.ofNat (q + len))), .val (.int (Int32.ofNat len)), .val (.int (Int32.ofNat len)), z9] [.int (Int32.ofNat len)])) := g9.trans (by
    refine XS.iload X9.here hexec rfl (hb hbytes d3) rfl ?_
    refine XS.iload X9.here hexec rfl (hb hbytes d5) rfl ?_
    refine XS.icmpYes X9.here hexec rfl (pc0 := 7) rfl (hb hbytes d7) rfl (ii_ge_t (nlt32 (by omega) (Nat.le_refl _))) (by decide) rfl ?_
    refine XS.iload X9.here hexec rfl (hb hbytes d44) rfl ?_
    exact Steps.refl _)
  exact ⟨T9, some (.int (Int32.ofNat len)), _, _, _, X9, by simp, rfl, rfl, (fun h => by cases h), ⟨rfl, B9, p9.from hh0, f9⟩, fun fs hl => c11.trans (X9.ireturnOut hexec hret rfl (Or.inl rfl) (hb hbytes d46) hl)⟩
end Cmp5
namespace Cmp3
def yN : MethodName := ⟨"java/lang/StringUTF16", "compress", "([CII)[B"⟩
abbrev yB : ByteArray := jdk_52_method_16_code
theorem d0 : decode yB 0 = .ok (.iload_n 2, 1) := by decide +kernel
theorem d1 : decode yB 1 = .ok (.newarray .byte, 2) := by decide +kernel
theorem d3 : decode yB 3 = .ok (.astore_n 3, 1) := by decide +kernel
theorem d4 : decode yB 4 = .ok (.aload_n 0, 1) := by decide +kernel
theorem d5 : decode yB 5 = .ok (.iload_n 1, 1) := by decide +kernel
theorem d6 : decode yB 6 = .ok (.aload_n 3, 1) := by decide +kernel
theorem d7 : decode yB 7 = .ok (.iconst 0, 1) := by decide +kernel
theorem d8 : decode yB 8 = .ok (.iload_n 2, 1) := by decide +kernel
theorem d9 : decode yB 9 = .ok (.invokestatic 115, 3) := by decide +kernel
theorem d12 : decode yB 12 = .ok (.istore 4, 2) := by decide +kernel
theorem d14 : decode yB 14 = .ok (.iload 4, 2) := by decide +kernel
theorem d16 : decode yB 16 = .ok (.iload_n 2, 1) := by decide +kernel
theorem d17 : decode yB 17 = .ok (.if_icmp (.eq) 40, 3) := by decide +kernel
theorem d57 : decode yB 57 = .ok (.aload_n 3, 1) := by decide +kernel
theorem d58 : decode yB 58 = .ok (.areturn, 1) := by decide +kernel
def site : List Cond := [.arrayClass .byte, Cmp5.tab] ++ staticW U16 115 Cmp5.yN
def tab : Cond := tabOf yN yB 6 (some (.array .byte)) site
def P (b : Addr) (A : Cell) (o len : Nat) (args : Array Value) (s : State) : Prop := args = #[.ref b, .int (Int32.ofNat o), .int (Int32.ofNat len)] ∧ Ch b A s ∧ o + len ≤ A.slots.size ∧ len ≤ 536870912 ∧ ∀ i, i < len → ¬ 255 < cv A (o + i)
def E (b : Addr) (A : Cell) (o len : Nat) (r : Option Value) (s u : State) : Prop := NewArr .byte "[B" len (fun j => .int (lo8 (cv A (o + j)))) r s u ∧ u.heap.size = s.heap.size + 1
/-- no char of the range above 255: a new byte[] of their low bytes -/
theorem law (l : Launch) (b : Addr) (A : Cell) (o len : Nat) : Law l yN 3 3 1 18 yB 6 (some (.array .byte)) site (P b A o len) (E b A o len) [] 1 len := by
  refine Law.of_walk (plainFor_of_name (by decide +kernel)) (by decide +kernel) (by decide +kernel) (by decide) (fun _ _ h => by rw [h.1]; rfl) (fun _ U U' hal hh h => ⟨h.1, h.2.1.mv hal hh, h.2.2⟩) (fun r U U' V V' h1 hal h2 h => ⟨NewArr.mv r U U' V V' h1 hal h2 h.1, by rw [h1, h2]; exact h.2⟩) ?_
  intro p e s m args below meth c s₁ X0 hexec hbytes hml hret hlk hnm hown hh0 W hP
  obtain ⟨rfl, hA, l1, l2, hp⟩ := hP
  have a31 := hA.1.2.2.2
  have c1 : Steps p.tables e below (s₁.setTop (entryFrame m #[.ref b, .int (Int32.ofNat o), .int (Int32.ofNat len)] 6)) (s₁.setTop (mkF m 0 #[.val (.ref b), .val (.int (Int32.ofNat o)), .val (.int (Int32.ofNat len)), .unset, .unset, .unset] [])) := entry rfl
  have c2 : Steps p.tables e below (s₁.setTop (entryFrame m #[.ref b, .int (Int32.ofNat o), .int (Int32.ofNat len)] 6)) (s₁.setTop (mkF m 1 #[.val (.ref b), .val (.int (Int32.ofNat o)), .val (.int (Int32.ofNat len)), .unset, .unset, .unset] [.int (Int32.ofNat len)])) := c1.trans (by
    refine XS.iloadN X0.here hexec rfl (hb hbytes d0) rfl ?_
    exact Steps.refl _)
  obtain ⟨T3, B3, X3, ba3, bs3, bv3, bh3, bf3, st3⟩ := X0.anew hexec (atype := .byte) (wk W (.arrayClass .byte)) rfl (by show len * 1 ≤ _; omega) (by omega) (g := (mkF m 1 #[.val (.ref b), .val (.int (Int32.ofNat o)), .val (.int (Int32.ofNat len)), .unset, .unset, .unset] [.int (Int32.ofNat len)])) rfl (hb hbytes d1) (rest := []) rfl (Nat.le_refl _) (by show 0 + len ≤ len; omega)
  rw [hh0] at ba3 st3
  have kp3 : XT.Kept s T3 := (XT.Kept.of_eq hh0).push bh3
  have hA3 := hA.keep X3.warmed.alike (kp3 _ _ hA.1.1)
  have hne : b ≠ s.heap.size := hA.1.ne
  have c4 : Steps p.tables e below (s₁.setTop (entryFrame m #[.ref b, .int (Int32.ofNat o), .int (Int32.ofNat len)] 6)) (T3.setTop (mkF m 3 #[.val (.ref b), .val (.int (Int32.ofNat o)), .val (.int (Int32.ofNat len)), .unset, .unset, .unset] [.ref s.heap.size])) := c2.trans (st3 _ (Steps.refl _))
  have c5 : Steps p.tables e below (s₁.setTop (entryFrame m #[.ref b, .int (Int32.ofNat o), .int (Int32.ofNat len)] 6)) (T3.setTop (mkF m 9 #[.val (.ref b), .val (.int (Int32.ofNat o)), .val (.int (Int32.ofNat len)), .val (.ref s.heap.size), .unset, .unset] [.int (Int32.ofNat len), .int 0, .ref s.heap.size, .int (Int32.ofNat o), .ref b])) := c4.trans (by
    refine XS.astoreN X3.here hexec rfl (hb hbytes d3) rfl rfl rfl ?_
    refine XS.aloadN X3.here hexec rfl (hb hbytes d4) rfl rfl ?_
    refine XS.iloadN X3.here hexec rfl (hb hbytes d5) rfl ?_
    refine XS.aloadN X3.here hexec rfl (hb hbytes d6) rfl rfl ?_
    refine iconstV X3.here hexec rfl 0 (hb hbytes d7) (by decide) ?_
    refine XS.iloadN X3.here hexec rfl (hb hbytes d8) rfl ?_
    exact Steps.refl _)
  obtain ⟨v6, T6, X6, E6, g6⟩ := X3.callS hexec (Cmp5.law l b A s.heap.size B3 o 0 len) hown (wks W (staticW U16 115 Cmp5.yN)) (wk W Cmp5.tab) (W := 0) (Nat.le_of_ble_eq_true rfl) (Nat.le_of_ble_eq_true rfl) (Nat.le_refl _) (by show 0 + len + 0 ≤ len; omega) (g := (mkF m 9 #[.val (.ref b), .val (.int (Int32.ofNat o)), .val (.int (Int32.ofNat len)), .val (.ref s.heap.size), .unset, .unset] [.int (Int32.ofNat len), .int (Int32.ofNat 0), .ref s.heap.size, .int (Int32.ofNat o), .ref b])) rfl (by rw [hml]; rfl) c5 (argsL := [.ref b, .int (Int32.ofNat o), .ref s.heap.size, .int (Int32.ofNat 0), .int (Int32.ofNat len)]) (rest := []) rfl rfl (by show 2 * 0 + 0 ≤ _; decide) (hb hbytes d9) (⟨rfl, hA3, ba3, hne, l1, by rw [bs3]; simp, hp⟩)
  obtain ⟨rfl, B6, p6, f6⟩ := E6
  have c7 : Steps p.tables e below (s₁.setTop (entryFrame m #[.ref b, .int (Int32.ofNat o), .int (Int32.ofNat len)] 6)) (T6.setTop (mkF m 12 #[.val (.ref b), .val (.int (Int32.ofNat o)), .val (.int (Int32.ofNat len)), .val (.ref s.heap.size), .unset, .unset] [.int (Int32.ofNat len)])) := g6
  have c8 : Steps p.tables e below (s₁.setTop (entryFrame m #[.ref b, .int (Int32.ofNat o), .int (Int32.ofNat len)] 6)) (T6.setTop (mkF m 58 #[.val (.ref b), .val (.int (Int32.ofNat o)), .val (.int (Int32.ofNat len)), .val (.ref s.heap.size), .val (.int (Int32.ofNat len)), .unset] [.ref s.heap.size])) := c7.trans (by
    refine XS.istore X6.here hexec rfl (hb hbytes d12) rfl rfl ?_
    refine XS.iload X6.here hexec rfl (hb hbytes d14) rfl ?_
    refine XS.iloadN X6.here hexec rfl (hb hbytes d16) rfl ?_
    refine XS.icmpYes X6.here hexec rfl (pc0 := 17) rfl (hb hbytes d17) rfl (ii_eq_t rfl) (by decide) rfl ?_
    refine XS.aloadN X6.here hexec rfl (hb hbytes d57) rfl rfl ?_
    exact Steps.refl _)
  have X8 := X6.wide (L' := []) (cells' := 1) (slots' := len) (fun x hx hlt => by
    simp only [List.nil_append, copyLocs, List.mem_map, List.mem_range] at hx
    obtain ⟨i, -, rfl⟩ := hx
    exact absurd hlt (Nat.lt_irrefl _)) (Nat.le_refl _) (by omega)
  exact ⟨T6, some (.ref s.heap.size), _, _, _, X8, rfl, rfl, rfl, (fun h => by cases h), ⟨⟨rfl, B6, ba3.like (X3.warmed.alike.symm.trans X6.warmed.alike) p6.1 f6.1 f6.2.1 f6.2.2.1, f6.2.1.trans bv3, by rw [X6.warmed.alike.findClass, f6.1]; exact bf3, by rw [f6.2.2.1, bs3]; simp, fun j hj => by rw [f6.2.2.2 j, if_pos (by omega)]; rfl, kp3.put p6 (Nat.le_refl _)⟩, by rw [p6.2.2, bh3, hh0]; simp⟩, fun fs hl => c8.trans (X8.areturnOut hexec rfl hret rfl (hb hbytes d58) hl)⟩
end Cmp3
namespace CodL
def yN : MethodName := ⟨"java/lang/StringUTF16", "coderFromArrayLen", "([BI)B"⟩
abbrev yB : ByteArray := jdk_52_method_15_code
theorem d0 : decode yB 0 = .ok (.iload_n 1, 1) := by decide +kernel
theorem d1 : decode yB 1 = .ok (.aload_n 0, 1) := by decide +kernel
theorem d2 : decode yB 2 = .ok (.arraylength, 1) := by decide +kernel
theorem d3 : decode yB 3 = .ok (.isub, 1) := by decide +kernel
theorem d4 : decode yB 4 = .ok (.bipush 31, 2) := by decide +kernel
theorem d6 : decode yB 6 = .ok (.iushr, 1) := by decide +kernel
theorem d7 : decode yB 7 = .ok (.i2b, 1) := by decide +kernel
theorem d8 : decode yB 8 = .ok (.ireturn, 1) := by decide +kernel
def site : List Cond := []
def tab : Cond := tabOf yN yB 2 (some .byte) site
def P (d : Addr) (B : Cell) (args : Array Value) (s : State) : Prop := args = #[.ref d, .int (Int32.ofNat B.slots.size)] ∧ Arr .byte d B s
def E (r : Option Value) (s u : State) : Prop := XT.PureE (some (.int 0)) r s u
/-- an array as long as the number of chars: LATIN1 -/
theorem law (l : Launch) (d : Addr) (B : Cell) : Law l yN 2 2 0 0 yB 2 (some .byte) site (P d B) E [] 0 0 := by
  refine Law.of_walk (plainFor_of_name (by decide +kernel)) (by decide +kernel) (by decide +kernel) (by decide) (fun _ _ h => by rw [h.1]; rfl) (fun _ U U' hal hh h => ⟨h.1, h.2.mv hal hh⟩) (fun r U U' V V' h1 hal h2 h => XT.PureE.mv r U U' V V' h1 hal h2 h) ?_
  intro p e s m args below meth c s₁ X0 hexec hbytes hml hret hlk hnm hown hh0 W hP
  obtain ⟨rfl, hB⟩ := hP
  have hB0 := hB.mv X0.warmed.alike hh0
  have c1 : Steps p.tables e below (s₁.setTop (entryFrame m #[.ref d, .int (Int32.ofNat B.slots.size)] 2)) (s₁.setTop (mkF m 0 #[.val (.ref d), .val (.int (Int32.ofNat B.slots.size))] [])) := entry rfl
  have c2 : Steps p.tables e below (s₁.setTop (entryFrame m #[.ref d, .int (Int32.ofNat B.slots.size)] 2)) (s₁.setTop (mkF m 2 #[.val (.ref d), .val (.int (Int32.ofNat B.slots.size))] [.ref d, .int (Int32.ofNat B.slots.size)])) := c1.trans (by
    refine XS.iloadN X0.here hexec rfl (hb hbytes d0) rfl ?_
    refine XS.aloadN X0.here hexec rfl (hb hbytes d1) rfl rfl ?_
    exact Steps.refl _)
  have c3 : Steps p.tables e below (s₁.setTop (entryFrame m #[.ref d, .int (Int32.ofNat B.slots.size)] 2)) (s₁.setTop (mkF m 8 #[.val (.ref d), .val (.int (Int32.ofNat B.slots.size))] [.int (lo8 (ushr (Int32.ofNat B.slots.size - Int32.ofNat B.slots.size) 31))])) := c2.trans (by
    refine X0.alen hexec hB0 rfl rfl (hb hbytes d2) ?_
    refine XS.isub X0.here hexec rfl (hb hbytes d3) rfl ?_
    refine bipushV X0.here hexec rfl 31 (hb hbytes d4) (by decide) ?_
    refine iushr X0.here hexec rfl (hb hbytes d6) rfl ?_
    refine i2b X0.here hexec rfl (hb hbytes d7) rfl ?_
    exact Steps.refl _)
  have e0 : lo8 (ushr (Int32.ofNat B.slots.size - Int32.ofNat B.slots.size) 31) = 0 := by rw [Int32.sub_self]; decide
  rw [e0] at c3
  exact ⟨s₁, some (.int 0), _, _, _, X0, rfl, rfl, rfl, (fun h => by cases h), ⟨rfl, hh0⟩, fun fs hl => c3.trans (X0.ireturnOut hexec hret rfl (Or.inr (Or.inr (Or.inl rfl))) (hb hbytes d8) hl)⟩
end CodL
/-- the String at a is Latin-1 over a new byte[] (the heap's one new cell): the low bytes of the len chars of A from o on; every cell but a is kept -/
def Got (a : Addr) (D : Cell) (fV fC : Field) (A : Cell) (o len : Nat) (r : Option Value) (s u : State) : Prop := r = none ∧ ∃ D' V : Cell, Blank "java/lang/String" a D' u ∧ Same D D' [fV.slot, fC.slot] ∧ D'.slots[fV.slot]? = some (.ref s.heap.size) ∧ D'.slots[fC.slot]? = some (.int 0) ∧ Arr .byte s.heap.size V u ∧ V.vm = .none ∧ u.vm.findClass "[B" = some V.cls ∧ V.slots.size = len ∧ (∀ j, j < len → V.slots[j]? = some (.int (lo8 (cv A (o + j))))) ∧ (∀ (y : Addr) (c : Cell), y ≠ a → s.heap[y]? = some c → u.heap[y]? = some c) ∧ u.heap.size = s.heap.size + 1
theorem Got.mv {a : Addr} {D A : Cell} {fV fC : Field} {o len : Nat} : ∀ r (U U' V V' : State), U'.heap = U.heap → V.vm.Alike V'.vm → V'.heap = V.heap → Got a D fV fC A o len r U V → Got a D fV fC A o len r U' V' :=
  fun r U U' V V' h1 hal h2 ⟨e0, D', X, a1, a2, a3, a4, a5, a6, a7, a8, a9, a10, a11⟩ => ⟨e0, D', X, a1.mv hal h2, a2, by rw [h1]; exact a3, a4, by rw [h1]; exact a5.mv hal h2, a6, by rw [hal.findClass]; exact a7, a8, a9, by rw [h1, h2]; exact a10, by rw [h1, h2]; exact a11⟩
namespace New4
def yN : MethodName := ⟨"java/lang/String", "<init>", "([CIILjava/lang/Void;)V"⟩
abbrev yB : ByteArray := jdk_42_method_149_code
theorem d0 : decode yB 0 = .ok (.aload_n 0, 1) := by decide +kernel
theorem d1 : decode yB 1 = .ok (.invokespecial 1, 3) := by decide +kernel
theorem d4 : decode yB 4 = .ok (.iload_n 3, 1) := by decide +kernel
theorem d5 : decode yB 5 = .ok (.ifCond (.ne) 22, 3) := by decide +kernel
theorem d27 : decode yB 27 = .ok (.getstatic 38, 3) := by decide +kernel
theorem d30 : decode yB 30 = .ok (.ifCond (.eq) 28, 3) := by decide +kernel
theorem d33 : decode yB 33 = .ok (.aload_n 1, 1) := by decide +kernel
theorem d34 : decode yB 34 = .ok (.iload_n 2, 1) := by decide +kernel
theorem d35 : decode yB 35 = .ok (.iload_n 3, 1) := by decide +kernel
theorem d36 : decode yB 36 = .ok (.invokestatic 177, 3) := by decide +kernel
theorem d39 : decode yB 39 = .ok (.astore 5, 2) := by decide +kernel
theorem d41 : decode yB 41 = .ok (.aload_n 0, 1) := by decide +kernel
theorem d42 : decode yB 42 = .ok (.aload 5, 2) := by decide +kernel
theorem d44 : decode yB 44 = .ok (.iload_n 3, 1) := by decide +kernel
theorem d45 : decode yB 45 = .ok (.invokestatic 47, 3) := by decide +kernel
theorem d48 : decode yB 48 = .ok (.putfield 15, 3) := by decide +kernel
theorem d51 : decode yB 51 = .ok (.aload_n 0, 1) := by decide +kernel
theorem d52 : decode yB 52 = .ok (.aload 5, 2) := by decide +kernel
theorem d54 : decode yB 54 = .ok (.putfield 9, 3) := by decide +kernel
theorem d57 : decode yB 57 = .ok (.return_, 1) := by decide +kernel
def site : List Cond := [.fieldLink "java/lang/String" 38 "java/lang/String" "COMPACT_STRINGS" "Z", Cmp3.tab, CodL.tab, .laysFinal "java/lang/String" "java/lang/String" "value" "[B", .fieldLink "java/lang/String" 9 "java/lang/String" "value" "[B", .laysFinal "java/lang/String" "java/lang/String" "coder" "B", .fieldLink "java/lang/String" 15 "java/lang/String" "coder" "B"] ++ objW "java/lang/String" 1 ++ staticW "java/lang/String" 177 Cmp3.yN ++ staticW "java/lang/String" 47 CodL.yN
def tab : Cond := tabOf yN yB 6 none site
def P (a : Addr) (D : Cell) (fV fC : Field) (b : Addr) (A : Cell) (z : Int32) (o len : Nat) (args : Array Value) (s : State) : Prop := args = #[.ref a, .ref b, .int (Int32.ofNat o), .int (Int32.ofNat len), .null] ∧ Blank "java/lang/String" a D s ∧ Found "java/lang/String" "value" "[B" fV s ∧ Found "java/lang/String" "coder" "B" fC s ∧ Ch b A s ∧ StaticIs s "java/lang/String" "COMPACT_STRINGS" "Z" (.int z) ∧ ¬ z = 0 ∧ 0 < len ∧ o + len ≤ A.slots.size ∧ len ≤ 536870912 ∧ ∀ i, i < len → ¬ 255 < cv A (o + i)
def E (a : Addr) (D : Cell) (fV fC : Field) (A : Cell) (o len : Nat) (r : Option Value) (s u : State) : Prop := Got a D fV fC A o len r s u
/-- len > 0, no char of the range above 255: a Latin-1 String of their low bytes -/
theorem law (l : Launch) (a : Addr) (D : Cell) (fV fC : Field) (b : Addr) (A : Cell) (z : Int32) (o len : Nat) : Law l yN 5 4 2 35 yB 6 none site (P a D fV fC b A z o len) (E a D fV fC A o len) [⟨a, fC.slot⟩, ⟨a, fV.slot⟩] 1 len := by
  refine Law.of_walk (plainFor_of_name (by decide +kernel)) (by decide +kernel) (by decide +kernel) (by decide) (fun _ _ h => by rw [h.1]; rfl) (fun _ U U' hal hh h => ⟨h.1, h.2.1.mv hal hh, h.2.2.1.al hal, h.2.2.2.1.al hal, h.2.2.2.2.1.mv hal hh, h.2.2.2.2.2.1.there hal hh, h.2.2.2.2.2.2⟩) (fun r U U' V V' h1 hal h2 h => Got.mv r U U' V V' h1 hal h2 h) ?_
  intro p e s m args below meth c s₁ X0 hexec hbytes hml hret hlk hnm hown hh0 W hP
  obtain ⟨rfl, hB, f1, f2, hA, s1, hz, l0, l1, l2, hp⟩ := hP
  have a31 := hA.1.2.2.2
  have c1 : Steps p.tables e below (s₁.setTop (entryFrame m #[.ref a, .ref b, .int (Int32.ofNat o), .int (Int32.ofNat len), .null] 6)) (s₁.setTop (mkF m 0 #[.val (.ref a), .val (.ref b), .val (.int (Int32.ofNat o)), .val (.int (Int32.ofNat len)), .val .null, .unset] [])) := entry rfl
  have c2 : Steps p.tables e below (s₁.setTop (entryFrame m #[.ref a, .ref b, .int (Int32.ofNat o), .int (Int32.ofNat len), .null] 6)) (s₁.setTop (mkF m 1 #[.val (.ref a), .val (.ref b), .val (.int (Int32.ofNat o)), .val (.int (Int32.ofNat len)), .val .null, .unset] [.ref a])) := c1.trans (by
    refine XS.aloadN X0.here hexec rfl (hb hbytes d0) rfl rfl ?_
    exact Steps.refl _)
  obtain ⟨T3, X3, q3, st3⟩ := X0.oinit hexec hown (wks W (objW "java/lang/String" 1)) (g := (mkF m 1 #[.val (.ref a), .val (.ref b), .val (.int (Int32.ofNat o)), .val (.int (Int32.ofNat len)), .val .null, .unset] [.ref a])) rfl (by rw [hml]; rfl) (rest := []) rfl (hb hbytes d1) (W := 0) (by show 2 * 0 + 0 ≤ _; decide) (Nat.le_of_ble_eq_true rfl) (Nat.le_of_ble_eq_true rfl)
  have hh3 := q3.trans hh0
  have c4 : Steps p.tables e below (s₁.setTop (entryFrame m #[.ref a, .ref b, .int (Int32.ofNat o), .int (Int32.ofNat len), .null] 6)) (T3.setTop (mkF m 27 #[.val (.ref a), .val (.ref b), .val (.int (Int32.ofNat o)), .val (.int (Int32.ofNat len)), .val .null, .unset] [])) := (c2.trans (st3 _ (Steps.refl _))).trans (by
    refine XS.iloadN X3.here hexec rfl (hb hbytes d4) rfl ?_
    refine XS.ifYes X3.here hexec rfl (pc0 := 5) rfl (hb hbytes d5) rfl (i0_ne_t (nz32 (by omega) l0)) (by decide) rfl ?_
    exact Steps.refl _)
  obtain ⟨T5, X5, q5, st5⟩ := X3.sget hexec hown (wk W (.fieldLink "java/lang/String" 38 "java/lang/String" "COMPACT_STRINGS" "Z")) s1 (fun _ _ h => by rw [hh3]; exact h) (g := (mkF m 27 #[.val (.ref a), .val (.ref b), .val (.int (Int32.ofNat o)), .val (.int (Int32.ofNat len)), .val .null, .unset] [])) rfl (hb hbytes d27)
  have hh5 := q5.trans hh3
  have c6 : Steps p.tables e below (s₁.setTop (entryFrame m #[.ref a, .ref b, .int (Int32.ofNat o), .int (Int32.ofNat len), .null] 6)) (T5.setTop (mkF m 30 #[.val (.ref a), .val (.ref b), .val (.int (Int32.ofNat o)), .val (.int (Int32.ofNat len)), .val .null, .unset] [.int z])) := c4.trans (st5 _ (Steps.refl _))
  have c7 : Steps p.tables e below (s₁.setTop (entryFrame m #[.ref a, .ref b, .int (Int32.ofNat o), .int (Int32.ofNat len), .null] 6)) (T5.setTop (mkF m 36 #[.val (.ref a), .val (.ref b), .val (.int (Int32.ofNat o)), .val (.int (Int32.ofNat len)), .val .null, .unset] [.int (Int32.ofNat len), .int (Int32.ofNat o), .ref b])) := c6.trans (by
    refine XS.ifNo X5.here hexec rfl (hb hbytes d30) rfl (i0_eq_f hz) ?_
    refine XS.aloadN X5.here hexec rfl (hb hbytes d33) rfl rfl ?_
    refine XS.iloadN X5.here hexec rfl (hb hbytes d34) rfl ?_
    refine XS.iloadN X5.here hexec rfl (hb hbytes d35) rfl ?_
    exact Steps.refl _)
  obtain ⟨v8, T8, X8, E8, g8⟩ := X5.callS hexec (Cmp3.law l b A o len) hown (wks W (staticW "java/lang/String" 177 Cmp3.yN)) (wk W Cmp3.tab) (W := 0) (Nat.le_of_ble_eq_true rfl) (Nat.le_of_ble_eq_true rfl) (Nat.le_refl _) (by show 0 + len ≤ len; omega) (g := (mkF m 36 #[.val (.ref a), .val (.ref b), .val (.int (Int32.ofNat o)), .val (.int (Int32.ofNat len)), .val .null, .unset] [.int (Int32.ofNat len), .int (Int32.ofNat o), .ref b])) rfl (by rw [hml]; rfl) c7 (argsL := [.ref b, .int (Int32.ofNat o), .int (Int32.ofNat len)]) (rest := []) rfl rfl (by show 2 * 0 + 0 ≤ _; decide) (hb hbytes d36) (⟨rfl, hA.mv X5.warmed.alike hh5, l1, l2, hp⟩)
  obtain ⟨e8, z8⟩ := E8
  obtain ⟨rfl, N, n1, n2, n3, n4, n5, n6⟩ := NewArr.mv _ T5 s _ _ hh5.symm (Vm.Alike.refl _) rfl e8
  rw [hh5] at z8
  have hB1 := hB.keep X8.warmed.alike (n6 _ _ hB.1)
  have hne : s.heap.size ≠ a := (Nat.ne_of_lt (Array.getElem?_eq_some_iff.mp hB.1).1).symm
  have c9 : Steps p.tables e below (s₁.setTop (entryFrame m #[.ref a, .ref b, .int (Int32.ofNat o), .int (Int32.ofNat len), .null] 6)) (T8.setTop (mkF m 39 #[.val (.ref a), .val (.ref b), .val (.int (Int32.ofNat o)), .val (.int (Int32.ofNat len)), .val .null, .unset] [.ref s.heap.size])) := g8
  have c10 : Steps p.tables e below (s₁.setTop (entryFrame m #[.ref a, .ref b, .int (Int32.ofNat o), .int (Int32.ofNat len), .null] 6)) (T8.setTop (mkF m 45 #[.val (.ref a), .val (.ref b), .val (.int (Int32.ofNat o)), .val (.int (Int32.ofNat len)), .val .null, .val (.ref s.heap.size)] [.int (Int32.ofNat N.slots.size), .ref s.heap.size, .ref a])) := by
    have hc : Steps p.tables e below (s₁.setTop (entryFrame m #[.ref a, .ref b, .int (Int32.ofNat o), .int (Int32.ofNat len), .null] 6)) (T8.setTop (mkF m 45 #[.val (.ref a), .val (.ref b), .val (.int (Int32.ofNat o)), .val (.int (Int32.ofNat len)), .val .null, .val (.ref s.heap.size)] [.int (Int32.ofNat len), .ref s.heap.size, .ref a])) := c9.trans (by
      refine XS.astore X8.here hexec rfl (hb hbytes d39) rfl rfl rfl ?_
      refine XS.aloadN X8.here hexec rfl (hb hbytes d41) rfl rfl ?_
      refine XS.aload X8.here hexec rfl (hb hbytes d42) rfl rfl ?_
      refine XS.iloadN X8.here hexec rfl (hb hbytes d44) rfl ?_
      exact Steps.refl _)
    rw [n4]; exact hc
  obtain ⟨v11, T11, X11, E11, g11⟩ := X8.callS hexec (CodL.law l s.heap.size N) hown (wks W (staticW "java/lang/String" 47 CodL.yN)) (wk W CodL.tab) (W := 1) (Nat.le_of_ble_eq_true rfl) (Nat.le_of_ble_eq_true rfl) (Nat.le_refl _) (by show 0 + len + 0 ≤ len; omega) (g := (mkF m 45 #[.val (.ref a), .val (.ref b), .val (.int (Int32.ofNat o)), .val (.int (Int32.ofNat len)), .val .null, .val (.ref s.heap.size)] [.int (Int32.ofNat N.slots.size), .ref s.heap.size, .ref a])) rfl (by rw [hml]; rfl) c10 (argsL := [.ref s.heap.size, .int (Int32.ofNat N.slots.size)]) (rest := [.ref a]) rfl rfl (by show 2 * 0 + (1 + 0) ≤ _; decide) (hb hbytes d45) (⟨rfl, n1⟩)
  obtain ⟨rfl, q11⟩ := E11
  have hB11 := hB1.mv (X8.warmed.alike.symm.trans X11.warmed.alike) q11
  have c12 : Steps p.tables e below (s₁.setTop (entryFrame m #[.ref a, .ref b, .int (Int32.ofNat o), .int (Int32.ofNat len), .null] 6)) (T11.setTop (mkF m 48 #[.val (.ref a), .val (.ref b), .val (.int (Int32.ofNat o)), .val (.int (Int32.ofNat len)), .val .null, .val (.ref s.heap.size)] [.int 0, .ref a])) := g11
  obtain ⟨T13, X13, p13, bl13, sl13, st13⟩ := X11.finit hexec hown (wk W (.fieldLink "java/lang/String" 15 "java/lang/String" "coder" "B")) (Or.inr ⟨_, (wk W (.laysFinal "java/lang/String" "java/lang/String" "coder" "B"))⟩) (Or.inl ⟨rfl, hnm⟩) f2 (Or.inl rfl) hB11 (t := .byte) (by decide +kernel) rfl (g := (mkF m 48 #[.val (.ref a), .val (.ref b), .val (.int (Int32.ofNat o)), .val (.int (Int32.ofNat len)), .val .null, .val (.ref s.heap.size)] [.int 0, .ref a])) rfl (rest := []) rfl (hb hbytes d48)
  have c14 : Steps p.tables e below (s₁.setTop (entryFrame m #[.ref a, .ref b, .int (Int32.ofNat o), .int (Int32.ofNat len), .null] 6)) (T13.setTop (mkF m 54 #[.val (.ref a), .val (.ref b), .val (.int (Int32.ofNat o)), .val (.int (Int32.ofNat len)), .val .null, .val (.ref s.heap.size)] [.ref s.heap.size, .ref a])) := (c12.trans (st13 _ (Steps.refl _))).trans (by
    refine XS.aloadN X13.here hexec rfl (hb hbytes d51) rfl rfl ?_
    refine XS.aload X13.here hexec rfl (hb hbytes d52) rfl rfl ?_
    exact Steps.refl _)
  obtain ⟨T15, X15, p15, bl15, sl15, st15⟩ := X13.finit hexec hown (wk W (.fieldLink "java/lang/String" 9 "java/lang/String" "value" "[B")) (Or.inr ⟨_, (wk W (.laysFinal "java/lang/String" "java/lang/String" "value" "[B"))⟩) (Or.inl ⟨rfl, hnm⟩) f1 (Or.inl rfl) bl13 (t := (.array .byte)) (by decide +kernel) rfl (g := (mkF m 54 #[.val (.ref a), .val (.ref b), .val (.int (Int32.ofNat o)), .val (.int (Int32.ofNat len)), .val .null, .val (.ref s.heap.size)] [.ref s.heap.size, .ref a])) rfl (rest := []) rfl (hb hbytes d54)
  have c16 : Steps p.tables e below (s₁.setTop (entryFrame m #[.ref a, .ref b, .int (Int32.ofNat o), .int (Int32.ofNat len), .null] 6)) (T15.setTop (mkF m 57 #[.val (.ref a), .val (.ref b), .val (.int (Int32.ofNat o)), .val (.int (Int32.ofNat len)), .val .null, .val (.ref s.heap.size)] [])) := c14.trans (st15 _ (Steps.refl _))
  have ap := apart (Or.inr ⟨_, (wk W (.laysFinal "java/lang/String" "java/lang/String" "value" "[B"))⟩) (Or.inr ⟨_, (wk W (.laysFinal "java/lang/String" "java/lang/String" "coder" "B"))⟩) f1 f2 (t₁ := .array .byte) (t₂ := .byte) (by decide +kernel) (by decide +kernel) (by decide)
  have al := X8.warmed.alike.symm.trans X15.warmed.alike
  have n7 : T11.heap[s.heap.size]? = some N := by rw [q11]; exact n1.1
  exact ⟨T15, none, _, _, _, X15, by simp, rfl, by omega, (fun _ => rfl), ⟨rfl, _, N, bl15, ((Same.refl D _).set _ (by simp)).set _ (by simp), sl15, (Cell.slots_setSlot_ne _ ap).trans sl13, n1.keep al (p15.other hne (p13.other hne n7)), n2, by rw [al.findClass]; exact n3, n4, n5, fun y c h1 h2 => p15.other h1 (p13.other h1 (by rw [q11]; exact n6 y c h2)), by rw [p15.2.2, p13.2.2, q11]; exact z8⟩, fun fs hl => c16.trans (X15.returnOut hexec hret (hb hbytes d57) hl)⟩
end New4
namespace New1
def yN : MethodName := ⟨"java/lang/String", "<init>", "([C)V"⟩
abbrev yB : ByteArray := jdk_42_method_3_code
theorem d0 : decode yB 0 = .ok (.aload_n 0, 1) := by decide +kernel
theorem d1 : decode yB 1 = .ok (.aload_n 1, 1) := by decide +kernel
theorem d2 : decode yB 2 = .ok (.iconst 0, 1) := by decide +kernel
theorem d3 : decode yB 3 = .ok (.aload_n 1, 1) := by decide +kernel
theorem d4 : decode yB 4 = .ok (.arraylength, 1) := by decide +kernel
theorem d5 : decode yB 5 = .ok (.aconst_null, 1) := by decide +kernel
theorem d6 : decode yB 6 = .ok (.invokespecial 27, 3) := by decide +kernel
theorem d9 : decode yB 9 = .ok (.return_, 1) := by decide +kernel
def site : List Cond := [New4.tab] ++ initW "java/lang/String" 27 New4.yN
def tab : Cond := tabOf yN yB 2 none site
def P (a : Addr) (D : Cell) (fV fC : Field) (b : Addr) (A : Cell) (z : Int32) (args : Array Value) (s : State) : Prop := args = #[.ref a, .ref b] ∧ Blank "java/lang/String" a D s ∧ Found "java/lang/String" "value" "[B" fV s ∧ Found "java/lang/String" "coder" "B" fC s ∧ Ch b A s ∧ StaticIs s "java/lang/String" "COMPACT_STRINGS" "Z" (.int z) ∧ ¬ z = 0 ∧ 0 < A.slots.size ∧ A.slots.size ≤ 536870912 ∧ ∀ i, i < A.slots.size → ¬ 255 < cv A i
def E (a : Addr) (D : Cell) (fV fC : Field) (A : Cell) (r : Option Value) (s u : State) : Prop := Got a D fV fC A 0 A.slots.size r s u
/-- new String(chars), not empty, no char above 255: a Latin-1 String of their low bytes -/
theorem law (l : Launch) (a : Addr) (D : Cell) (fV fC : Field) (b : Addr) (A : Cell) (z : Int32) : Law l yN 2 1 3 52 yB 2 none site (P a D fV fC b A z) (E a D fV fC A) [⟨a, fC.slot⟩, ⟨a, fV.slot⟩] 1 A.slots.size := by
  refine Law.of_walk (plainFor_of_name (by decide +kernel)) (by decide +kernel) (by decide +kernel) (by decide) (fun _ _ h => by rw [h.1]; rfl) (fun _ U U' hal hh h => ⟨h.1, h.2.1.mv hal hh, h.2.2.1.al hal, h.2.2.2.1.al hal, h.2.2.2.2.1.mv hal hh, h.2.2.2.2.2.1.there hal hh, h.2.2.2.2.2.2⟩) (fun r U U' V V' h1 hal h2 h => Got.mv r U U' V V' h1 hal h2 h) ?_
  intro p e s m args below meth c s₁ X0 hexec hbytes hml hret hlk hnm hown hh0 W hP
  obtain ⟨rfl, hB, f1, f2, hA, s1, hz, l0, l2, hp⟩ := hP
  have c1 : Steps p.tables e below (s₁.setTop (entryFrame m #[.ref a, .ref b] 2)) (s₁.setTop (mkF m 0 #[.val (.ref a), .val (.ref b)] [])) := entry rfl
  have c2 : Steps p.tables e below (s₁.setTop (entryFrame m #[.ref a, .ref b] 2)) (s₁.setTop (mkF m 6 #[.val (.ref a), .val (.ref b)] [.null, .int (Int32.ofNat A.slots.size), .int 0, .ref b, .ref a])) := c1.trans (by
    refine XS.aloadN X0.here hexec rfl (hb hbytes d0) rfl rfl ?_
    refine XS.aloadN X0.here hexec rfl (hb hbytes d1) rfl rfl ?_
    refine iconstV X0.here hexec rfl 0 (hb hbytes d2) (by decide) ?_
    refine XS.aloadN X0.here hexec rfl (hb hbytes d3) rfl rfl ?_
    refine X0.alen hexec (hA.1.mv X0.warmed.alike hh0) rfl rfl (hb hbytes d4) ?_
    refine XS.aconstNull X0.here hexec rfl (hb hbytes d5) ?_
    exact Steps.refl _)
  obtain ⟨v3, T3, X3, E3, g3⟩ := X0.callN hexec (New4.law l a D fV fC b A z 0 A.slots.size) rfl hown (wks W (initW "java/lang/String" 27 New4.yN)) (W New4.tab (by simp only [site, List.mem_cons, List.mem_append, true_or, or_true])) (W := 0) (Nat.le_of_ble_eq_true rfl) (Nat.le_of_ble_eq_true rfl) (Nat.le_refl _) (by show 0 + A.slots.size ≤ A.slots.size; omega) (g := (mkF m 6 #[.val (.ref a), .val (.ref b)] [.null, .int (Int32.ofNat A.slots.size), .int (Int32.ofNat 0), .ref b, .ref a])) rfl (by rw [hml]; rfl) c2 (argsL := [.ref b, .int (Int32.ofNat 0), .int (Int32.ofNat A.slots.size), .null]) (rest := []) rfl rfl (by show 2 * 0 + 0 ≤ _; decide) (hb hbytes d6) (⟨rfl, hB.mv X0.warmed.alike hh0, f1.al X0.warmed.alike, f2.al X0.warmed.alike, hA.mv X0.warmed.alike hh0, s1.there X0.warmed.alike hh0, hz, l0, by omega, l2, fun i hi => by rw [Nat.zero_add]; exact hp i hi⟩)
  have e0 := Got.mv _ s₁ s _ _ hh0.symm (Vm.Alike.refl _) rfl E3
  obtain rfl := e0.1
  have c4 : Steps p.tables e below (s₁.setTop (entryFrame m #[.ref a, .ref b] 2)) (T3.setTop (mkF m 9 #[.val (.ref a), .val (.ref b)] [])) := g3
  exact ⟨T3, none, _, _, _, X3, by simp, rfl, by omega, (fun _ => rfl), e0, fun fs hl => c4.trans (X3.returnOut hexec hret (hb hbytes d9) hl)⟩
theorem pays {l : Launch} {R : Room} {p : Program} {e : Env} {below : List Frame} {s : State} {sargs : Array Value} {len W : Nat} (a : Addr) (D : Cell) (fV fC : Field) (b : Addr) (A : Cell) (z : Int32) (htab : tab.before sargs s = true) (hfr : 4 ≤ R.frames) (hlo : W + 65 ≤ R.locals) :
    Back l R p e below s sargs yN len W (fun A₁ a₁ => A₁.cells + 1 ≤ R.cells ∧ A₁.slots + A.slots.size ≤ R.slots ∧ P a D fV fC b A z a₁ A₁.U) (fun A₁ _ v₁ B₁ => E a D fV fC A v₁ A₁.U B₁.U ∧ B₁.locs = A₁.locs ++ [⟨a, fC.slot⟩, ⟨a, fV.slot⟩] ∧ B₁.cells = A₁.cells + 1 ∧ B₁.slots = A₁.slots + A.slots.size) :=
  (law l a D fV fC b A z).pays htab hfr (by omega)
end New1
/-- the byte, read back as charAt reads it, is the char -/
theorem lo8_mask {x : Int32} (h0 : ¬ x < 0) (h1 : ¬ 255 < x) : lo8 x &&& 255 = x := by
  have t : ∀ k : Fin 256, lo8 (Int32.ofNat k.val) &&& 255 = Int32.ofNat k.val := by decide +kernel
  rw [Int32.lt_iff_toInt_lt] at h0 h1
  have e0 : (0 : Int32).toInt = 0 := rfl
  have e1 : (255 : Int32).toInt = 255 := rfl
  obtain ⟨k, hk⟩ : ∃ k : Nat, x.toInt = k := ⟨x.toInt.toNat, by omega⟩
  have hx : x = Int32.ofNat k := Int32.toInt_inj.mp (by rw [hk, Int32.toInt_ofNat_small (by omega)])
  rw [hx]
  exact t ⟨k, by omega⟩
end StrChars
namespace StrChars.Road
open Jvm Sem ClassFile Op Lib Jvm.Stand Jvm.Free Jvm.Free.XT
open Jvm.Lib.Cold (StaticIs)
abbrev ST : String := "java/lang/String"
/-- every table word that New1's law asks, flat -/
abbrev words : List Jvm.Cond := [.code New1.yN New1.yB 2 none, .initialized ST, .methodLink ST 27 New4.yN, .instanceMethod New4.yN,
  .code New4.yN New4.yB 6 none, .fieldLink ST 38 ST "COMPACT_STRINGS" "Z", .laysFinal ST ST "value" "[B", .fieldLink ST 9 ST "value" "[B", .laysFinal ST ST "coder" "B", .fieldLink ST 15 ST "coder" "B",
  .methodLink ST 1 Lib.objectInit, .instanceMethod Lib.objectInit, .code Lib.objectInit ⟨#[0xb1]⟩ 1 none, .methodLink ST 177 Cmp3.yN, .static Cmp3.yN, .methodLink ST 47 CodL.yN, .static CodL.yN,
  .code Cmp3.yN Cmp3.yB 6 (some (.array .byte)), .initialized U16, .arrayClass .byte, .methodLink U16 115 Cmp5.yN, .static Cmp5.yN, .code Cmp5.yN Cmp5.yB 7 (some .int), .code CodL.yN CodL.yB 2 (some .byte)]
theorem tab_of {a : Array Value} {s : State} (h : ∀ w ∈ words, w.before a s = true) : New1.tab.before a s = true := by
  have h5 : Cmp5.tab.before a s = true := unparts (wk h (.code Cmp5.yN Cmp5.yB 7 (some .int))) (wks h (.initialized Cmp5.yN.cls :: Cmp5.site))
  have hc : CodL.tab.before a s = true := unparts (wk h (.code CodL.yN CodL.yB 2 (some .byte))) (wks h (.initialized CodL.yN.cls :: CodL.site))
  have q5 : ∀ w ∈ Cmp5.tab :: words, w.before a s = true := fun w hw => (List.mem_cons.mp hw).elim (fun e => e ▸ h5) (h w)
  have h3 : Cmp3.tab.before a s = true := unparts (wk q5 (.code Cmp3.yN Cmp3.yB 6 (some (.array .byte)))) (wks q5 (.initialized Cmp3.yN.cls :: Cmp3.site))
  have q3 : ∀ w ∈ Cmp3.tab :: CodL.tab :: words, w.before a s = true := fun w hw => (List.mem_cons.mp hw).elim (fun e => e ▸ h3) fun hw => (List.mem_cons.mp hw).elim (fun e => e ▸ hc) (h w)
  have h4 : New4.tab.before a s = true := unparts (wk q3 (.code New4.yN New4.yB 6 none)) (wks q3 (.initialized New4.yN.cls :: New4.site))
  have q4 : ∀ w ∈ New4.tab :: words, w.before a s = true := fun w hw => (List.mem_cons.mp hw).elim (fun e => e ▸ h4) (h w)
  exact unparts (wk q4 (.code New1.yN New1.yB 2 none)) (wks q4 (.initialized New1.yN.cls :: New1.site))
/-- the words ride from the start Z to the walk's own state -/
theorem moved {Z s : State} {a0 args : Array Value} (hZ : Z.Warmed39 s.vm) (hw : ∀ d ∈ words, d.before a0 Z = true) : ∀ d ∈ words, d.before args s = true := fun d hd => by
  have q := hw d hd
  have t : ∀ d ∈ words, d = .arrayClass .byte ∨ (d.onTables && d.keepsFace) = true := by decide +kernel
  rcases t d hd with rfl | t
  · exact RoadKit.mvA hZ q
  · exact RoadKit.mv hZ q t
/-- WHAT COMES BACK, over the tables of the start Z: h the heap at the call, h' behind it -/
def Q (Z : State) (x : Addr) (A : Cell) (h : Heap) (v : Option Value) (h' : Heap) (L : List Loc) : Prop := v = none ∧ (∀ y ∈ L, y.base = x) ∧ RoadKit.Keep h h' [x] ∧ h'.size = h.size + 1 ∧ RoadKit.Exa Z h' x ST ∧ RoadKit.Fld Z h' x ST "value" "[B" (.ref h.size) ∧ RoadKit.Fld Z h' x ST "coder" "B" (.int 0) ∧
  (∃ V : Cell, RoadKit.Arr Z h' h.size V .byte ∧ V.vm = .none ∧ Z.vm.findClass "[B" = some V.cls ∧ V.slots.size = A.slots.size ∧ ∀ j, j < A.slots.size → V.slots[j]? = some (.int (lo8 (cv A j)))) ∧
  ∀ (O n d : String) (w : Value), RoadKit.Fld Z h x O n d w → RoadKit.slotOf Z O n d ≠ RoadKit.slotOf Z ST "value" "[B" → RoadKit.slotOf Z O n d ≠ RoadKit.slotOf Z ST "coder" "B" → RoadKit.Fld Z h' x O n d w
/-- **new String(chars) AT A CALL, IN THE ROAD'S FORM**: for specialBack behind newO: x the fresh String, b the char[] with the cell A -/
theorem back {p : Program} {l : Launch} {e : Env} {R : Room} {s : State} {args : Array Value} {below : List Frame} {len W : Nat} {Z : State} {a0 : Array Value} {h : Heap} (hZ : Z.Warmed39 s.vm) (hw : ∀ d ∈ words, d.before a0 Z = true) {kI : Nat} (wi : (Jvm.Cond.instantiable ST kI).before a0 Z = true)
    {x b : Addr} {A : Cell} {z : Int32} {v0 c0 : Value} (E : RoadKit.Exa Z h x ST) (V : RoadKit.Fld Z h x ST "value" "[B" v0) (C : RoadKit.Fld Z h x ST "coder" "B" c0) (K : RoadKit.Arr Z h b A .char) (hty : Typed .char A) (S : RoadKit.Sta Z h ST "COMPACT_STRINGS" "Z" (.int z)) (hz : ¬ z = 0)
    (l0 : 0 < A.slots.size) (l2 : A.slots.size ≤ 536870912) (hp : ∀ i, i < A.slots.size → ¬ 255 < cv A i) (hfr : 4 ≤ R.frames) (hlo : W + 65 ≤ R.locals) :
    Back l R p e below s args New1.yN len W (fun P a => a = #[.ref x, .ref b] ∧ P.U.heap = h ∧ P.cells + 1 ≤ R.cells ∧ P.slots + A.slots.size ≤ R.slots)
      (fun P _ v B => ∃ L, Q Z x A h v B.U.heap L ∧ B.locs = P.locs ++ L ∧ B.cells = P.cells + 1 ∧ B.slots = P.slots + A.slots.size) := by
  intro m meth c P g ig mk a X hg hsize hdg hW hn hp'
  obtain ⟨rfl, rfl, r1, r2⟩ := hp'
  have al : Z.vm.Alike P.U.vm := hZ.alike.trans X.warmed.alike
  obtain ⟨D, cfV, kV, iV, fV, hD, gV, stV, knV, obV, asV, slV⟩ := id V
  obtain ⟨D', cfC, kC, iC, fC, hD', gC, stC, -, -, asC, slC⟩ := id C
  cases hD.symm.trans hD'
  obtain ⟨D2, kD, e1, e2, e3, e4, e5⟩ := id E
  cases hD.symm.trans e1
  obtain ⟨c2, k2, i1, i2, i3, -⟩ := Cond.instantiable_spec wi
  cases e2.symm.trans i1
  cases e3.symm.trans i2
  obtain ⟨kU, u1, u2⟩ := al.2.2 _ _ e3
  have hB : Blank ST x D P.U := ⟨hD, ⟨knV, fun q hq => by rw [hq] at obV; cases obV⟩, by rw [al.findClass]; exact e2, kU, u1, by rw [u2]; exact i3, by rw [u2]; exact e5 i3⟩
  have F1 : Found ST "value" "[B" fV P.U := ⟨SBG.found_only al ⟨cfV, kV, iV, gV⟩, stV⟩
  have F2 : Found ST "coder" "B" fC P.U := ⟨SBG.found_only al ⟨cfC, kC, iC, gC⟩, stC⟩
  have hA : Ch b A P.U := ⟨⟨K.1, State.isArrayOf_alike al K.2.1, K.2.2, by omega⟩, hty⟩
  have hS : StaticIs P.U ST "COMPACT_STRINGS" "Z" (.int z) := by
    obtain ⟨cfS, iS, kS, fS, st, cS, t1, t2, t3, t4, t5, t6, t7⟩ := S
    exact StaticIs.there (s := { Z with heap := P.U.heap }) ⟨cfS, iS, kS, fS, st, cS, t1, t2, t3, t4, t5, (fun q => by rw [q] at t6; cases t6), t7⟩ al rfl
  obtain ⟨v, B, X', ⟨⟨hv, E', V', q1, q2, q3, q4, q5, q6, q7, q8, q9, q10, q11⟩, hl, hc, hs⟩, st⟩ := New1.pays x D fV fC b A z (tab_of (moved hZ hw)) hfr hlo m meth c P g ig mk _ X hg hsize hdg hW hn ⟨r1, r2, rfl, hB, F1, F2, hA, hS, hz, l0, l2, hp⟩
  have al' : Z.vm.Alike B.U.vm := hZ.alike.trans X'.warmed.alike
  have hsz : E'.slots.size = D.slots.size := by
    obtain ⟨-, -, -, kB, w1, w2, w3⟩ := q1
    obtain ⟨kB', y1, y2⟩ := al'.2.2 _ _ e3
    rw [q2.2.1] at w1
    cases w1.symm.trans y1
    rw [w3, e5 i3, y2]
  refine ⟨v, B, X', ⟨_, ⟨hv, ?_, ⟨by omega, fun y cy hy hn' => q10 y cy (by simpa using hn') hy, fun y cy hy => ?_⟩, q11, ⟨E', _, q1.1, by rw [q2.2.1]; exact e2, by rw [q2.2.1]; exact e3, by rw [q2.1]; exact obV, fun _ => by rw [hsz]; exact e5 i3⟩,
    ⟨E', cfV, kV, iV, fV, q1.1, gV, stV, by rw [q2.1]; exact knV, by rw [q2.1]; exact obV, by rw [q2.2.1]; exact asV, q3⟩, ⟨E', cfC, kC, iC, fC, q1.1, gC, stC, by rw [q2.1]; exact knV, by rw [q2.1]; exact obV, by rw [q2.2.1]; exact asC, q4⟩,
    ⟨V', ⟨q5.1, State.isArrayOf_alike al'.symm q5.2.1, q5.2.2.1⟩, q6, by rw [← al'.findClass]; exact q7, q8, fun j hj => by have := q9 j hj; rwa [Nat.zero_add] at this⟩, fun O n d w F n1 n2 => ?_⟩, hl, hc, hs⟩, st⟩
  · intro y hy
    simp only [List.mem_cons, List.not_mem_nil, or_false] at hy
    rcases hy with rfl | rfl <;> rfl
  · by_cases q : y = x
    · subst q
      cases hD.symm.trans hy
      exact ⟨E', q1.1, q2.2.1, q2.1, hsz⟩
    · exact ⟨cy, q10 y cy q hy, rfl, rfl, rfl⟩
  · obtain ⟨D3, cf, k, i, f, g1, g2, g3, g4, g5, g6, g7⟩ := F
    cases hD.symm.trans g1
    simp only [RoadKit.slotOf, g2, gV, gC, Option.map_some, Option.getD_some] at n1 n2
    exact ⟨E', cf, k, i, f, q1.1, g2, g3, by rw [q2.1]; exact g4, by rw [q2.1]; exact g5, by rw [q2.2.1]; exact g6, by rw [q2.2.2 f.slot (by simp [n1, n2])]; exact g7⟩
end StrChars.Road
namespace StrChars.Road
open Jvm Sem ClassFile Op Lib Jvm.Stand Jvm.Free Jvm.Free.XT
/-- WHAT COMES BACK, the byte[] as a list of values -/
def QA (Z : State) (x : Addr) (zn : Int32) (cs : List Int32) (h : Heap) (v : Option Value) (h' : Heap) (L : List Loc) : Prop := v = none ∧ (∀ y ∈ L, y.base = x) ∧ RoadKit.Keep h h' [x] ∧ h'.size = h.size + 1 ∧ RoadKit.Exa Z h' x ST ∧ RoadKit.Fld Z h' x ST "value" "[B" (.ref h.size) ∧ RoadKit.Fld Z h' x ST "coder" "B" (.int 0) ∧
  (∃ kb, Z.vm.findClass "[B" = some kb ∧ RoadKit.Arv Z h' h.size kb .byte zn (cs.map fun c => .int (lo8 c)) (.int 0)) ∧
  ∀ (O n d : String) (w : Value), RoadKit.Fld Z h x O n d w → RoadKit.slotOf Z O n d ≠ RoadKit.slotOf Z ST "value" "[B" → RoadKit.slotOf Z O n d ≠ RoadKit.slotOf Z ST "coder" "B" → RoadKit.Fld Z h' x O n d w
/-- **new String(chars) AT A CALL, THE ARRAYS AS LISTS**: the char[] at b holds cs, not empty, no char above 255 -/
theorem backArv {p : Program} {l : Launch} {e : Env} {R : Room} {s : State} {args : Array Value} {below : List Frame} {len W : Nat} {Z : State} {a0 : Array Value} {h : Heap} (hZ : Z.Warmed39 s.vm) (hw : ∀ d ∈ words, d.before a0 Z = true) {kI : Nat} (wi : (Jvm.Cond.instantiable ST kI).before a0 Z = true)
    {x b : Addr} {k : ClassId} {zn z : Int32} {cs : List Int32} {dv v0 c0 : Value} (E : RoadKit.Exa Z h x ST) (V : RoadKit.Fld Z h x ST "value" "[B" v0) (C : RoadKit.Fld Z h x ST "coder" "B" c0) (K : RoadKit.Arv Z h b k .char zn (cs.map Value.int) dv) (S : RoadKit.Sta Z h ST "COMPACT_STRINGS" "Z" (.int z)) (hz : ¬ z = 0)
    (hlen : zn.toNatClampNeg = cs.length) (h0 : 0 < cs.length) (hbig : cs.length ≤ 536870912) (hall : ∀ c ∈ cs, ¬ 255 < c) (hfr : 4 ≤ R.frames) (hlo : W + 65 ≤ R.locals) :
    Back l R p e below s args New1.yN len W (fun P a => a = #[.ref x, .ref b] ∧ P.U.heap = h ∧ P.cells + 1 ≤ R.cells ∧ P.slots + cs.length ≤ R.slots)
      (fun P _ v B => ∃ L, QA Z x zn cs h v B.U.heap L ∧ B.locs = P.locs ++ L ∧ B.cells = P.cells + 1 ∧ B.slots = P.slots + cs.length) := by
  obtain ⟨A, K1, K2, K3, K4, K5, K6⟩ := K
  have e : A.slots.size = cs.length := K3.trans hlen
  have hat : ∀ (i : Nat) (hi : i < cs.length), A.slots[i]? = some (.int cs[i]) := fun i hi => by rw [K5 i (by omega)]; simp [List.getD_eq_getElem?_getD, hi]
  have hcv : ∀ (i : Nat) (hi : i < cs.length), cv A i = cs[i] := fun i hi => by unfold cv; rw [hat i hi]
  have hty : Typed .char A := fun i v hv => by
    have hi : i < A.slots.size := (Array.getElem?_eq_some_iff.mp hv).1
    have q := K5 i hi
    rw [hv] at q
    rw [Option.some.inj q]
    exact K6 i hi
  refine Back.mono (back hZ hw wi E V C K1 hty S hz (by omega) (by omega) (fun i hi => by rw [hcv i (by omega)]; exact hall _ (List.getElem_mem _)) hfr hlo) (fun P a hp => ⟨hp.1, hp.2.1, hp.2.2.1, by rw [e]; exact hp.2.2.2⟩) (fun P a v B hp hq => ?_)
  obtain ⟨L, ⟨q1, q2, q3, q4, q5, q6, q7, ⟨V', v1, v2, v3, v4, v5⟩, q9⟩, hl, hc, hs⟩ := hq
  refine ⟨L, ⟨q1, q2, q3, q4, q5, q6, q7, ⟨V'.cls, v3, V', v1, rfl, by rw [v4, e, hlen], K4, fun i hi => ?_, fun i hi => ?_⟩, q9⟩, hl, hc, by rw [hs, e]⟩
  · have hi' : i < cs.length := by omega
    rw [v5 i (by omega), hcv i hi']; simp [List.getD_eq_getElem?_getD, hi']
  · have hi' : i < cs.length := by omega
    simp only [List.getD_eq_getElem?_getD, List.getElem?_map, List.getElem?_eq_getElem hi', Option.map_some, Option.getD_some]
    exact fits_lo8 _
end StrChars.Road
namespace StrChars.Road
open Jvm Sem ClassFile Op Lib Jvm.Stand Jvm.Free Jvm.Free.XT
/-- WHAT COMES BACK, in the writer's own shape -/
def QV (Z : State) (x : Addr) (N : Int32) (bs : List Int32) (h : Heap) (n0 : Nat) (v : Option Value) (h' : Heap) (L : List Loc) : Prop := v = none ∧ RoadKit.Fr n0 L ∧ RoadKit.Keep h h' [x] ∧ RoadKit.Exa Z h' x ST ∧ RoadKit.Fld Z h' x ST "coder" "B" (.int 0) ∧
  ∃ (t : Addr) (kb : ClassId), n0 ≤ t ∧ h.size ≤ t ∧ ¬ t = x ∧ RoadKit.Fld Z h' x ST "value" "[B" (.ref t) ∧ RoadKit.Arv Z h' t kb .byte N (bs.map Value.int) (.int 0)
/-- **new String(chars) AT A CALL, FOR THE WRITER**: a char[] of n known ints, each 0 to 255 -/
theorem backV {p : Program} {l : Launch} {e : Env} {R : Room} {s : State} {args : Array Value} {below : List Frame} {len W : Nat} {Z : State} {a0 : Array Value} {h : Heap} (hZ : Z.Warmed39 s.vm) (hw : ∀ d ∈ words, d.before a0 Z = true) {kI : Nat} (wi : (Jvm.Cond.instantiable ST kI).before a0 Z = true)
    {x b : Addr} {kC : ClassId} {cs bs : List Int32} {d v0 c0 : Value} {z N : Int32} {n n0 : Nat} (hx0 : n0 ≤ x) (hh0 : n0 ≤ h.size) (E : RoadKit.Exa Z h x ST) (V : RoadKit.Fld Z h x ST "value" "[B" v0) (C : RoadKit.Fld Z h x ST "coder" "B" c0) (K : RoadKit.Arv Z h b kC .char N (cs.map Value.int) d) (S : RoadKit.Sta Z h ST "COMPACT_STRINGS" "Z" (.int z)) (hz : ¬ z = 0)
    (hn : cs.length = n) (hN : N = Int32.ofNat n) (l0 : 0 < n) (l2 : n ≤ 4000) (hp : ∀ c ∈ cs, ¬ c < 0 ∧ ¬ (255 : Int32) < c) (hb : bs = cs.map (fun c => c.toInt8.toInt32)) (hfr : 4 ≤ R.frames) (hlo : W + 65 ≤ R.locals) :
    Back l R p e below s args (⟨"java/lang/String", "<init>", "([C)V"⟩ : MethodName) len W (fun P a => a = #[.ref x, .ref b] ∧ P.U.heap = h ∧ P.cells + 1 ≤ R.cells ∧ P.slots + n ≤ R.slots)
      (fun P _ v B => ∃ L, QV Z x N bs h n0 v B.U.heap L ∧ B.locs = P.locs ++ L ∧ B.cells = P.cells + 1 ∧ B.slots = P.slots + n) := by
  subst hn hN hb
  refine Back.mono (backArv hZ hw wi E V C K S hz (n32 (by omega)) l0 (by omega) (fun c hc => (hp c hc).2) hfr hlo) (fun P a hp => hp) (fun P a v B hp hq => ?_)
  obtain ⟨L, ⟨q1, q2, q3, q4, q5, q6, q7, ⟨kb, v1, v2⟩, q9⟩, hl, hc, hs⟩ := hq
  exact ⟨L, ⟨q1, fun y hy => by rw [q2 y hy]; exact hx0, q3, q5, q7, h.size, kb, hh0, Nat.le_refl _, Nat.ne_of_gt E.lt, q6, by rw [List.map_map]; exact v2⟩, hl, hc, hs⟩
end StrChars.Road
namespace StrChars
open Jvm Sem ClassFile Op Lib Jvm.Stand Jvm.Free.XT Jvm.Free.ALB Jvm.Free.JM Jvm.Free
open Jvm.Lib.Cold (StaticIs)
def hi8 (x : Int32) : Int32 := lo8 (x >>> ((8 : Int32) &&& 31))
/-- what StringUTF16.getChar makes of two bytes -/
def pairCh (u v : Int32) : Int32 := (((u &&& 255) <<< ((0 : Int32) &&& 31)) ||| ((v &&& 255) <<< ((8 : Int32) &&& 31))).toUInt32.toUInt16.toUInt32.toInt32
theorem shr0 (c : Int32) : c >>> ((0 : Int32) &&& 31) = c := by
  have e : ((0 : Int32) &&& 31) = 0 := by decide
  rw [e]
  apply Int32.toBitVec_inj.mp
  rw [Int32.toBitVec_shiftRight]
  have e1 : ((0 : Int32).toBitVec.smod 32) = 0#32 := by decide
  rw [e1, BitVec.sshiftRight_eq']
  exact BitVec.sshiftRight_zero
theorem lo8_and (x : Int32) : (lo8 x &&& 255).toBitVec.toNat = x.toBitVec.toNat % 256 := by
  have h : (lo8 x).toBitVec = (x.toBitVec.signExtend 8).signExtend 32 := by rw [lo8, Int8.toBitVec_toInt32, Int32.toBitVec_toInt8]
  rw [Int32.toBitVec_and, BitVec.toNat_and, h]
  have e : ((x.toBitVec.signExtend 8).signExtend 32).toNat % 256 = x.toBitVec.toNat % 256 := by
    rw [BitVec.toNat_signExtend]
    have hlt := x.toBitVec.isLt
    simp only [BitVec.toNat_setWidth, BitVec.toNat_signExtend]
    split <;> split <;> omega
  rw [← e]
  exact Nat.and_two_pow_sub_one_eq_mod _ 8
theorem pair_says {c : Int32} (h0 : ¬ c < 0) (h1 : ¬ 65535 < c) : pairCh (lo8 c) (hi8 c) = c := by
  rw [Int32.lt_iff_toInt_lt] at h0 h1
  have e0 : (0 : Int32).toInt = 0 := rfl
  have e1 : (65535 : Int32).toInt = 65535 := rfl
  have hc : c.toInt = c.toBitVec.toNat := by
    have := c.toBitVec.isLt
    have e : c.toInt = c.toBitVec.toInt := rfl
    rw [e] at h0 h1
    rw [e]
    rw [BitVec.toInt_eq_toNat_cond] at h0 h1 ⊢
    split at h0 <;> split <;> omega
  have hn : c.toBitVec.toNat < 65536 := by omega
  have a1 := lo8_and c
  have a2 : (hi8 c &&& 255).toBitVec.toNat = c.toBitVec.toNat / 256 := by
    rw [hi8, lo8_and]
    have e : ((8 : Int32) &&& 31) = 8 := by decide
    rw [e, Int32.toBitVec_shiftRight]
    have e2 : ((8 : Int32).toBitVec.smod 32) = 8#32 := by decide
    rw [e2, BitVec.sshiftRight_eq', BitVec.toNat_sshiftRight_of_msb_false (by rw [BitVec.msb_eq_false_iff_two_mul_lt]; omega)]
    show c.toBitVec.toNat >>> 8 % 256 = _
    rw [Nat.shiftRight_eq_div_pow]
    omega
  unfold pairCh
  apply Int32.toBitVec_inj.mp
  apply BitVec.eq_of_toNat_eq
  have f0 : ((0 : Int32) &&& 31) = 0 := by decide
  have f8 : ((8 : Int32) &&& 31) = 8 := by decide
  rw [f0, f8]
  have g : (((lo8 c &&& 255) <<< (0 : Int32)) ||| ((hi8 c &&& 255) <<< (8 : Int32))).toBitVec.toNat = c.toBitVec.toNat := by
    rw [Int32.toBitVec_or, Int32.toBitVec_shiftLeft, Int32.toBitVec_shiftLeft]
    have s0 : ((0 : Int32).toBitVec.smod 32) = 0#32 := by decide
    have s8 : ((8 : Int32).toBitVec.smod 32) = 8#32 := by decide
    rw [s0, s8, BitVec.toNat_or]
    simp only [BitVec.shiftLeft_eq', BitVec.toNat_shiftLeft, a1, a2]
    show (c.toBitVec.toNat % 256) <<< 0 % 2 ^ 32 ||| (c.toBitVec.toNat / 256) <<< 8 % 2 ^ 32 = _
    rw [Nat.shiftLeft_zero, Nat.mod_eq_of_lt (show c.toBitVec.toNat % 256 < 2 ^ 32 by omega), Nat.mod_eq_of_lt (show (c.toBitVec.toNat / 256) <<< 8 < 2 ^ 32 by rw [Nat.shiftLeft_eq]; omega), Nat.or_comm, ← Nat.shiftLeft_add_eq_or_of_lt (by omega), Nat.shiftLeft_eq]
    omega
  show BitVec.toNat (((((lo8 c &&& 255) <<< (0 : Int32)) ||| ((hi8 c &&& 255) <<< (8 : Int32))).toBitVec.setWidth 16).setWidth 32) = _
  rw [BitVec.toNat_setWidth, BitVec.toNat_setWidth, g]
  omega
end StrChars
namespace StrChars
open Jvm Sem ClassFile Op Lib Jvm.Stand Jvm.Free.XT Jvm.Free.ALB Jvm.Free.JM Jvm.Free
open Jvm.Lib.Cold (StaticIs)
theorem shr1 {n : Nat} (h : 2 * n < 2 ^ 31) : Int32.ofNat (2 * n) >>> ((1 : Int32) &&& 31) = Int32.ofNat n := by
  have e : ((1 : Int32) &&& 31) = 1 := by decide
  rw [e]
  apply Int32.toBitVec_inj.mp
  rw [Int32.toBitVec_shiftRight]
  have e1 : ((1 : Int32).toBitVec.smod 32) = 1#32 := by decide
  have hm : (BitVec.ofNat 32 (2 * n)).toNat = 2 * n := by rw [BitVec.toNat_ofNat, Nat.mod_eq_of_lt (by omega)]
  rw [e1, BitVec.sshiftRight_eq']
  apply BitVec.eq_of_toNat_eq
  show ((BitVec.ofNat 32 (2 * n)).sshiftRight 1).toNat = (BitVec.ofNat 32 n).toNat
  rw [BitVec.toNat_sshiftRight_of_msb_false (by rw [BitVec.msb_eq_false_iff_two_mul_lt, hm]; omega), hm, BitVec.toNat_ofNat, Nat.shiftRight_eq_div_pow]
  omega
/-- the array's cell V codes the n chars f 0 .. f (n - 1) by the coder cd, as the JDK does: coder 1 just where some char is above 255 -/
def Cod (cd : Int32) (n : Nat) (f : Nat → Int32) (V : Cell) : Prop := (cd = 0 ∧ V.slots.size = n ∧ ∀ j, j < n → V.slots[j]? = some (.int (lo8 (f j))) ∧ ¬ 255 < f j) ∨ (cd = 1 ∧ V.slots.size = 2 * n ∧ (∀ j, j < n → V.slots[2 * j]? = some (.int (lo8 (f j))) ∧ V.slots[2 * j + 1]? = some (.int (hi8 (f j)))) ∧ ∃ j, j < n ∧ 255 < f j)
theorem Cod.cd {cd : Int32} {n : Nat} {f : Nat → Int32} {V : Cell} (h : Cod cd n f V) : cd = 0 ∨ cd = 1 := h.imp (fun q => q.1) fun q => q.1
theorem Cod.len {cd : Int32} {n : Nat} {f : Nat → Int32} {V : Cell} (h : Cod cd n f V) (hs : V.slots.size < 2 ^ 31) : Int32.ofNat V.slots.size >>> (cd &&& 31) = Int32.ofNat n := by
  rcases h with ⟨rfl, h, -⟩ | ⟨rfl, h, -⟩
  · rw [shr0, h]
  · rw [h, shr1 (by omega)]
/-- **x is a String of the n chars f 0 .. f (n - 1)**, Latin-1 or UTF-16; its array at t has the cell V -/
def Txt (x t : Addr) (V : Cell) (cd : Int32) (n : Nat) (f : Nat → Int32) (U : State) : Prop := Exact "java/lang/String" x U ∧ Has x "java/lang/String" "value" "[B" (.ref t) U ∧ Has x "java/lang/String" "coder" "B" (.int cd) U ∧ XT.Arr .byte t V U ∧ Cod cd n f V ∧ ∀ j, j < n → ¬ f j < 0 ∧ ¬ 65535 < f j
theorem Txt.mv {x t : Addr} {V : Cell} {cd : Int32} {n : Nat} {f : Nat → Int32} {U U' : State} (h : Txt x t V cd n f U) (hal : U.vm.Alike U'.vm) (hh : U'.heap = U.heap) : Txt x t V cd n f U' := ⟨h.1.mv hal hh, h.2.1.mv hal hh, h.2.2.1.mv hal hh, h.2.2.2.1.mv hal hh, h.2.2.2.2⟩
namespace Cdr
def yN : MethodName := ⟨"java/lang/String", "coder", "()B"⟩
abbrev yB : ByteArray := jdk_42_method_152_code
theorem d0 : decode yB 0 = .ok (.getstatic 38, 3) := by decide +kernel
theorem d3 : decode yB 3 = .ok (.ifCond (.eq) 10, 3) := by decide +kernel
theorem d6 : decode yB 6 = .ok (.aload_n 0, 1) := by decide +kernel
theorem d7 : decode yB 7 = .ok (.getfield 15, 3) := by decide +kernel
theorem d10 : decode yB 10 = .ok (.goto 4, 3) := by decide +kernel
theorem d14 : decode yB 14 = .ok (.ireturn, 1) := by decide +kernel
def site : List Cond := [.fieldLink "java/lang/String" 38 "java/lang/String" "COMPACT_STRINGS" "Z", .fieldLink "java/lang/String" 15 "java/lang/String" "coder" "B"]
def tab : Cond := tabOf yN yB 1 (some .byte) site
def P (x : Addr) (cd z : Int32) (args : Array Value) (s : State) : Prop := args = #[.ref x] ∧ Has x "java/lang/String" "coder" "B" (.int cd) s ∧ (cd = 0 ∨ cd = 1) ∧ StaticIs s "java/lang/String" "COMPACT_STRINGS" "Z" (.int z) ∧ ¬ z = 0
def E (cd : Int32) (r : Option Value) (s u : State) : Prop := XT.PureE (some (.int cd)) r s u
theorem law (l : Launch) (x : Addr) (cd z : Int32) : Law l yN 1 0 0 0 yB 1 (some .byte) site (P x cd z) (E cd) [] 0 0 := by
  refine Law.of_walk (plainFor_of_name (by decide +kernel)) (by decide +kernel) (by decide +kernel) (by decide) (fun _ _ h => by rw [h.1]; rfl) (fun _ U U' hal hh h => ⟨h.1, h.2.1.mv hal hh, h.2.2.1, h.2.2.2.1.there hal hh, h.2.2.2.2⟩) (fun r U U' V V' h1 hal h2 h => XT.PureE.mv r U U' V V' h1 hal h2 h) ?_
  intro p e s m args below meth c s₁ X0 hexec hbytes hml hret hlk hnm hown hh0 W hP
  obtain ⟨rfl, hx, hc, s1, hz⟩ := hP
  have c1 : Steps p.tables e below (s₁.setTop (entryFrame m #[.ref x] 1)) (s₁.setTop (mkF m 0 #[.val (.ref x)] [])) := entry rfl
  obtain ⟨T2, X2, q2, st2⟩ := X0.sget hexec hown (wk W (.fieldLink "java/lang/String" 38 "java/lang/String" "COMPACT_STRINGS" "Z")) s1 (fun _ _ h => by rw [hh0]; exact h) (g := (mkF m 0 #[.val (.ref x)] [])) rfl (hb hbytes d0)
  have hh2 := q2.trans hh0
  have c3 : Steps p.tables e below (s₁.setTop (entryFrame m #[.ref x] 1)) (T2.setTop (mkF m 7 #[.val (.ref x)] [.ref x])) := (c1.trans (st2 _ (Steps.refl _))).trans (by
    refine XS.ifNo X2.here hexec rfl (hb hbytes d3) rfl (i0_eq_f hz) ?_
    refine XS.aloadN X2.here hexec rfl (hb hbytes d6) rfl rfl ?_
    exact Steps.refl _)
  obtain ⟨T4, X4, q4, st4⟩ := X2.hget hexec hown (wk W (.fieldLink "java/lang/String" 15 "java/lang/String" "coder" "B")) (hx.mv X2.warmed.alike hh2) (g := (mkF m 7 #[.val (.ref x)] [.ref x])) rfl (rest := []) rfl (hb hbytes d7)
  have c5 : Steps p.tables e below (s₁.setTop (entryFrame m #[.ref x] 1)) (T4.setTop (mkF m 14 #[.val (.ref x)] [.int cd])) := (c3.trans (st4 _ (Steps.refl _))).trans (by
    refine XS.goto X4.here hexec rfl (pc0 := 10) rfl (hb hbytes d10) (by decide) rfl ?_
    exact Steps.refl _)
  exact ⟨T4, some (.int cd), _, _, _, X4, rfl, rfl, rfl, (fun h => by cases h), ⟨rfl, q4.trans hh2⟩, fun fs hl => c5.trans (X4.ireturnOut hexec hret (by rcases hc with rfl | rfl <;> rfl) (Or.inr (Or.inr (Or.inl rfl))) (hb hbytes d14) hl)⟩
end Cdr
namespace Len
def yN : MethodName := ⟨"java/lang/String", "length", "()I"⟩
abbrev yB : ByteArray := jdk_42_method_54_code
theorem d0 : decode yB 0 = .ok (.aload_n 0, 1) := by decide +kernel
theorem d1 : decode yB 1 = .ok (.getfield 9, 3) := by decide +kernel
theorem d4 : decode yB 4 = .ok (.arraylength, 1) := by decide +kernel
theorem d5 : decode yB 5 = .ok (.aload_n 0, 1) := by decide +kernel
theorem d6 : decode yB 6 = .ok (.invokevirtual 335, 3) := by decide +kernel
theorem d9 : decode yB 9 = .ok (.ishr, 1) := by decide +kernel
theorem d10 : decode yB 10 = .ok (.ireturn, 1) := by decide +kernel
def site : List Cond := [.fieldLink "java/lang/String" 9 "java/lang/String" "value" "[B", Cdr.tab] ++ virtW "java/lang/String" 335 "java/lang/String" Cdr.yN Cdr.yN
def tab : Cond := tabOf yN yB 1 (some .int) site
def P (x t : Addr) (V : Cell) (cd : Int32) (n : Nat) (f : Nat → Int32) (z : Int32) (args : Array Value) (s : State) : Prop := args = #[.ref x] ∧ Txt x t V cd n f s ∧ StaticIs s "java/lang/String" "COMPACT_STRINGS" "Z" (.int z) ∧ ¬ z = 0
def E (n : Nat) (r : Option Value) (s u : State) : Prop := XT.PureE (some (.int (Int32.ofNat n))) r s u
/-- length() of a String of n chars, in either coding -/
theorem law (l : Launch) (x t : Addr) (V : Cell) (cd : Int32) (n : Nat) (f : Nat → Int32) (z : Int32) : Law l yN 1 0 1 13 yB 1 (some .int) site (P x t V cd n f z) (E n) [] 0 0 := by
  refine Law.of_walk (plainFor_of_name (by decide +kernel)) (by decide +kernel) (by decide +kernel) (by decide) (fun _ _ h => by rw [h.1]; rfl) (fun _ U U' hal hh h => ⟨h.1, h.2.1.mv hal hh, h.2.2.1.there hal hh, h.2.2.2⟩) (fun r U U' V V' h1 hal h2 h => XT.PureE.mv r U U' V V' h1 hal h2 h) ?_
  intro p e s m args below meth c s₁ X0 hexec hbytes hml hret hlk hnm hown hh0 W hP
  obtain ⟨rfl, hx, s1, hz⟩ := hP
  have v31 := hx.2.2.2.1.2.2.2
  have c1 : Steps p.tables e below (s₁.setTop (entryFrame m #[.ref x] 1)) (s₁.setTop (mkF m 1 #[.val (.ref x)] [.ref x])) := Steps.trans (entry rfl) (by
    show Steps p.tables e below (s₁.setTop (mkF m 0 #[.val (.ref x)] [])) _
    refine XS.aloadN X0.here hexec rfl (hb hbytes d0) rfl rfl ?_
    exact Steps.refl _)
  obtain ⟨T2, X2, q2, st2⟩ := X0.hget hexec hown (wk W (.fieldLink "java/lang/String" 9 "java/lang/String" "value" "[B")) (hx.mv X0.warmed.alike hh0).2.1 (g := (mkF m 1 #[.val (.ref x)] [.ref x])) rfl (rest := []) rfl (hb hbytes d1)
  have hh2 := q2.trans hh0
  have hx2 := hx.mv X2.warmed.alike hh2
  have c3 : Steps p.tables e below (s₁.setTop (entryFrame m #[.ref x] 1)) (T2.setTop (mkF m 6 #[.val (.ref x)] [.ref x, .int (Int32.ofNat V.slots.size)])) := (c1.trans (st2 _ (Steps.refl _))).trans (by
    refine X2.alen hexec hx2.2.2.2.1 rfl rfl (hb hbytes d4) ?_
    refine XS.aloadN X2.here hexec rfl (hb hbytes d5) rfl rfl ?_
    exact Steps.refl _)
  obtain ⟨v4, T4, X4, E4, g4⟩ := X2.callV hexec (Cdr.law l x cd z) hown (wks W (virtW "java/lang/String" 335 "java/lang/String" Cdr.yN Cdr.yN)) rfl (by decide) (wk W Cdr.tab) (W := 1) (Nat.le_of_ble_eq_true rfl) (Nat.le_of_ble_eq_true rfl) (Nat.le_refl _) (Nat.le_refl _) (hx2.1.fc X2.warmed.alike) hx2.1.is (g := (mkF m 6 #[.val (.ref x)] [.ref x, .int (Int32.ofNat V.slots.size)])) rfl (by rw [hml]; rfl) c3 (argsL := []) (rest := [.int (Int32.ofNat V.slots.size)]) rfl rfl (by show 2 * 0 + (1 + 0) ≤ _; decide) (hb hbytes d6) (⟨rfl, hx2.2.2.1, hx.2.2.2.2.1.cd, s1.there X2.warmed.alike hh2, hz⟩)
  obtain ⟨rfl, q4⟩ := E4
  have c5 : Steps p.tables e below (s₁.setTop (entryFrame m #[.ref x] 1)) (T4.setTop (mkF m 10 #[.val (.ref x)] [.int (Int32.ofNat V.slots.size >>> (cd &&& 31))])) := Steps.trans g4 (by
    refine ishr X4.here hexec rfl (hb hbytes d9) rfl ?_
    exact Steps.refl _)
  rw [hx.2.2.2.2.1.len v31] at c5
  exact ⟨T4, some (.int (Int32.ofNat n)), _, _, _, X4, rfl, rfl, rfl, (fun h => by cases h), ⟨rfl, q4.trans hh2⟩, fun fs hl => c5.trans (X4.ireturnOut hexec hret rfl (Or.inl rfl) (hb hbytes d10) hl)⟩
theorem pays {l : Launch} {R : Room} {p : Program} {e : Env} {below : List Frame} {s : State} {sargs : Array Value} {len W : Nat} (x t : Addr) (V : Cell) (cd : Int32) (n : Nat) (f : Nat → Int32) (z : Int32) (htab : tab.before sargs s = true) (hfr : 2 ≤ R.frames) (hlo : W + 25 ≤ R.locals) :
    Back l R p e below s sargs yN len W (fun A₁ a₁ => A₁.cells + 0 ≤ R.cells ∧ A₁.slots + 0 ≤ R.slots ∧ P x t V cd n f z a₁ A₁.U) (fun A₁ _ v₁ B₁ => E n v₁ A₁.U B₁.U ∧ B₁.locs = A₁.locs ++ [] ∧ B₁.cells = A₁.cells + 0 ∧ B₁.slots = A₁.slots + 0) :=
  (law l x t V cd n f z).pays htab hfr (by omega)
end Len
end StrChars
namespace StrChars.Road
open Jvm Sem ClassFile Op Lib Jvm.Stand Jvm.Free Jvm.Free.XT
open Jvm.Lib.Cold (StaticIs)
theorem consq {a : Array Value} {s : State} {c : Jvm.Cond} {L : List Jvm.Cond} (h0 : c.before a s = true) (h : ∀ w ∈ L, w.before a s = true) : ∀ w ∈ c :: L, w.before a s = true := fun w hw => (List.mem_cons.mp hw).elim (fun e => e ▸ h0) (h w)
/-- the words of String.length(), either coding -/
abbrev wordsLen : List Jvm.Cond := [.code Len.yN Len.yB 1 (some .int), .initialized ST, .fieldLink ST 9 ST "value" "[B", .fieldLink ST 38 ST "COMPACT_STRINGS" "Z", .fieldLink ST 15 ST "coder" "B", .code Cdr.yN Cdr.yB 1 (some .byte), .methodLink ST 335 Cdr.yN, .declares Cdr.yN, .selects ST Cdr.yN Cdr.yN, .instanceMethod Cdr.yN]
theorem tabLen_of {a : Array Value} {s : State} (h : ∀ w ∈ wordsLen, w.before a s = true) : Len.tab.before a s = true := by
  have hc : Cdr.tab.before a s = true := unparts (wk h (.code Cdr.yN Cdr.yB 1 (some .byte))) (wks h (.initialized Cdr.yN.cls :: Cdr.site))
  have q := consq hc h
  exact unparts (wk q (.code Len.yN Len.yB 1 (some .int))) (wks q (.initialized Len.yN.cls :: Len.site))
theorem movedLen {Z s : State} {a0 args : Array Value} (hZ : Z.Warmed39 s.vm) (hw : ∀ d ∈ wordsLen, d.before a0 Z = true) : ∀ d ∈ wordsLen, d.before args s = true := fun d hd => by
  have q := hw d hd
  have t : ∀ d ∈ wordsLen, d = .arrayClass .byte ∨ (d.onTables && d.keepsFace) = true := by decide +kernel
  rcases t d hd with rfl | t
  · exact RoadKit.mvA hZ q
  · exact RoadKit.mv hZ q t
/-- the bytes of the chars cs, low before high -/
def wideBytes : List Int32 → List Value
  | [] => []
  | c :: cs => .int (lo8 c) :: .int (hi8 c) :: wideBytes cs
theorem wide_lo (d : Value) : ∀ (cs : List Int32) (j : Nat), j < cs.length → (wideBytes cs).getD (2 * j) d = .int (lo8 (cs.getD j 0))
  | [], j, h => absurd h (Nat.not_lt_zero j)
  | c :: cs, 0, _ => rfl
  | c :: cs, j + 1, h => by
    have q := wide_lo d cs j (by simpa using h)
    rw [show 2 * (j + 1) = 2 * j + 1 + 1 from by omega]
    simpa [wideBytes] using q
theorem wide_hi (d : Value) : ∀ (cs : List Int32) (j : Nat), j < cs.length → (wideBytes cs).getD (2 * j + 1) d = .int (hi8 (cs.getD j 0))
  | [], j, h => absurd h (Nat.not_lt_zero j)
  | c :: cs, 0, _ => rfl
  | c :: cs, j + 1, h => by
    have q := wide_hi d cs j (by simpa using h)
    rw [show 2 * (j + 1) + 1 = 2 * j + 1 + 1 + 1 from by omega]
    simpa [wideBytes] using q
theorem low_at (d : Value) (cs : List Int32) (j : Nat) (h : j < cs.length) : (cs.map fun c => Value.int (lo8 c)).getD j d = .int (lo8 (cs.getD j 0)) := by
  simp [List.getD_eq_getElem?_getD, h]
/-- an array of N2 bytes vs codes the chars cs by the coder cd -/
def CodA (cs : List Int32) (cd N2 : Int32) (vs : List Value) : Prop := (cd = 0 ∧ N2 = Int32.ofNat cs.length ∧ vs = (cs.map fun c => Value.int (lo8 c)) ∧ ∀ c ∈ cs, ¬ 255 < c) ∨ (cd = 1 ∧ N2 = Int32.ofNat (2 * cs.length) ∧ vs = wideBytes cs ∧ ∃ c ∈ cs, 255 < c)
theorem CodA.cod {cs : List Int32} {cd N2 : Int32} {vs : List Value} {V : Cell} (h : CodA cs cd N2 vs) (hn : 2 * cs.length < 2 ^ 31) (hs : V.slots.size = N2.toNatClampNeg) (hv : RoadKit.Has V vs (.int 0)) : Cod cd cs.length (fun j => cs.getD j 0) V := by
  rcases h with ⟨rfl, rfl, rfl, h⟩ | ⟨rfl, rfl, rfl, c, hc, hw⟩
  · rw [n32 (by omega)] at hs
    exact Or.inl ⟨rfl, hs, fun j hj => ⟨by rw [hv j (by omega), low_at _ _ _ hj], by
      have e : cs.getD j 0 = cs[j] := by simp [List.getD_eq_getElem?_getD, hj]
      show ¬ 255 < cs.getD j 0
      rw [e]; exact h _ (List.getElem_mem _)⟩⟩
  · rw [n32 (by omega)] at hs
    obtain ⟨j, hj, rfl⟩ := List.getElem_of_mem hc
    exact Or.inr ⟨rfl, hs, fun j hj => ⟨by rw [hv _ (by omega), wide_lo _ _ _ hj], by rw [hv _ (by omega), wide_hi _ _ _ hj]⟩, j, hj, by
      have e : cs.getD j 0 = cs[j] := by simp [List.getD_eq_getElem?_getD, hj]
      show 255 < cs.getD j 0
      rw [e]; exact hw⟩
/-- an object of exactly java/lang/String, its two fields found: as the laws ask it -/
theorem strObj {Z U : State} {a0 : Array Value} {kI : Nat} (wi : (Jvm.Cond.instantiable ST kI).before a0 Z = true) (al : Z.vm.Alike U.vm) {x : Addr} {v0 c0 : Value} (E : RoadKit.Exa Z U.heap x ST) (V : RoadKit.Fld Z U.heap x ST "value" "[B" v0) (C : RoadKit.Fld Z U.heap x ST "coder" "B" c0) :
    ∃ (D : Cell) (fV fC : Field), Blank ST x D U ∧ Found ST "value" "[B" fV U ∧ Found ST "coder" "B" fC U ∧ D.slots[fV.slot]? = some v0 ∧ D.slots[fC.slot]? = some c0 ∧ RoadKit.slotOf Z ST "value" "[B" = fV.slot ∧ RoadKit.slotOf Z ST "coder" "B" = fC.slot := by
  obtain ⟨D, cfV, kV, iV, fV, hD, gV, stV, knV, obV, asV, slV⟩ := V
  obtain ⟨D', cfC, kC, iC, fC, hD', gC, stC, -, -, asC, slC⟩ := C
  cases hD.symm.trans hD'
  obtain ⟨D2, kD, e1, e2, e3, e4, e5⟩ := E
  cases hD.symm.trans e1
  obtain ⟨c2, k2, i1, i2, i3, -⟩ := Cond.instantiable_spec wi
  cases e2.symm.trans i1
  cases e3.symm.trans i2
  obtain ⟨kU, u1, u2⟩ := al.2.2 _ _ e3
  exact ⟨D, fV, fC, ⟨hD, ⟨knV, fun q hq => by rw [hq] at obV; cases obV⟩, by rw [al.findClass]; exact e2, kU, u1, by rw [u2]; exact i3, by rw [u2]; exact e5 i3⟩, ⟨SBG.found_only al ⟨cfV, kV, iV, gV⟩, stV⟩, ⟨SBG.found_only al ⟨cfC, kC, iC, gC⟩, stC⟩, slV, slC, by simp [RoadKit.slotOf, gV], by simp [RoadKit.slotOf, gC]⟩
theorem sta_is {Z U : State} (al : Z.vm.Alike U.vm) {C n d : String} {v : Value} (S : RoadKit.Sta Z U.heap C n d v) : StaticIs U C n d v := by
  obtain ⟨cfS, iS, kS, fS, st, cS, t1, t2, t3, t4, t5, t6, t7⟩ := S
  exact StaticIs.there (s := { Z with heap := U.heap }) ⟨cfS, iS, kS, fS, st, cS, t1, t2, t3, t4, t5, (fun q => by rw [q] at t6; cases t6), t7⟩ al rfl
/-- **length() OF SUCH A STRING** -/
theorem lenW {p : Program} {l : Launch} {e : Env} {R : Room} {s : State} {args : Array Value} {below : List Frame} {len W : Nat} {Z : State} {a0 : Array Value} {h : Heap} (hZ : Z.Warmed39 s.vm) (hw : ∀ d ∈ wordsLen, d.before a0 Z = true) {kI : Nat} (wi : (Jvm.Cond.instantiable ST kI).before a0 Z = true)
    {x t : Addr} {kb : ClassId} {cs : List Int32} {cd N2 z : Int32} {vs : List Value} (E : RoadKit.Exa Z h x ST) (V : RoadKit.Fld Z h x ST "value" "[B" (.ref t)) (C : RoadKit.Fld Z h x ST "coder" "B" (.int cd)) (K : RoadKit.Arv Z h t kb .byte N2 vs (.int 0)) (hc : CodA cs cd N2 vs) (hb : ∀ c ∈ cs, ¬ c < 0 ∧ ¬ (65535 : Int32) < c)
    (S : RoadKit.Sta Z h ST "COMPACT_STRINGS" "Z" (.int z)) (hz : ¬ z = 0) (l2 : cs.length ≤ 4000) (hfr : 2 ≤ R.frames) (hlo : W + 25 ≤ R.locals) :
    Back l R p e below s args (⟨"java/lang/String", "length", "()I"⟩ : MethodName) len W (fun P a => a = #[.ref x] ∧ P.U.heap = h ∧ P.cells + 0 ≤ R.cells ∧ P.slots + 0 ≤ R.slots)
      (fun P _ v B => ∃ L, (v = some (.int (Int32.ofNat cs.length)) ∧ L = [] ∧ B.U.heap = h) ∧ B.locs = P.locs ++ L ∧ B.cells = P.cells + 0 ∧ B.slots = P.slots + 0) := by
  obtain ⟨A, K1, K2, K3, K4, K5, K6⟩ := K
  have hcod := hc.cod (by omega) K3 K5
  intro m meth c P g ig mk a X hg hsize hdg hW hn hp'
  obtain ⟨rfl, rfl, r1, r2⟩ := hp'
  have al : Z.vm.Alike P.U.vm := hZ.alike.trans X.warmed.alike
  obtain ⟨D, fV, fC, hB, F1, F2, g1, g2, -, -⟩ := strObj wi al E V C
  have hx : Txt x t A cd cs.length (fun j => cs.getD j 0) P.U := ⟨⟨_, hB.2.2.1, D, hB.1, rfl, by cases q : D.vm <;> first | rfl | exact absurd q (hB.2.1.2 _)⟩, Has.of hB F1 g1, Has.of hB F2 g2, ⟨K1.1, State.isArrayOf_alike al K1.2.1, K1.2.2, by rcases hcod with ⟨-, q, -⟩ | ⟨-, q, -⟩ <;> omega⟩, hcod, fun j hj => by
    have e : cs.getD j 0 = cs[j] := by simp [List.getD_eq_getElem?_getD, hj]
    show ¬ cs.getD j 0 < 0 ∧ ¬ 65535 < cs.getD j 0
    rw [e]; exact hb _ (List.getElem_mem _)⟩
  obtain ⟨v, B, X', ⟨⟨hv, hh⟩, hl, hk, hs⟩, st⟩ := Len.pays x t A cd cs.length (fun j => cs.getD j 0) z (tabLen_of (movedLen hZ hw)) hfr hlo m meth c P g ig mk _ X hg hsize hdg hW hn ⟨r1, r2, rfl, hx, sta_is al S, hz⟩
  exact ⟨v, B, X', ⟨[], ⟨hv, rfl, hh⟩, hl, hk, hs⟩, st⟩
end StrChars.Road
namespace StrChars
open Jvm Sem ClassFile Op Lib Jvm.Stand Jvm.Free.XT Jvm.Free.ALB Jvm.Free.JM Jvm.Free
open Jvm.Lib.Cold (StaticIs)
/-- what place i of a byte[]'s cell holds -/
def yv (A : Cell) (i : Nat) : Int32 := match A.slots[i]? with | some (.int x) => x | _ => 0
theorem yv_get {a : Addr} {A : Cell} {U : State} (h : XT.Arr .byte a A U) (ht : Typed .byte A) {i : Nat} (hi : i < A.slots.size) : A.slots[i]? = some (.int (yv A i)) := by
  have e := Array.getElem?_eq_getElem hi
  have f := ht i _ e
  unfold yv; rw [e]
  generalize A.slots[i] = v at f
  cases v <;> simp [fits] at f ⊢
/-- the two arrays are equal, place for place -/
def EqC (A B : Cell) : Prop := A.slots.size = B.slots.size ∧ ∀ i, i < A.slots.size → yv A i = yv B i
/-- a boolean that says whether p -/
def Says01 (q : Prop) (r : Option Value) (s u : State) : Prop := ∃ v : Int32, r = some (.int v) ∧ u.heap = s.heap ∧ ((v = 1 ∧ q) ∨ (v = 0 ∧ ¬ q))
theorem Says01.mv {q : Prop} : ∀ r (U U' V V' : State), U'.heap = U.heap → V.vm.Alike V'.vm → V'.heap = V.heap → Says01 q r U V → Says01 q r U' V' :=
  fun r U U' V V' h1 _ h2 ⟨v, a, b, c⟩ => ⟨v, a, by rw [h1, h2]; exact b, c⟩
namespace LEq
def yN : MethodName := ⟨"java/lang/StringLatin1", "equals", "([B[B)Z"⟩
abbrev yB : ByteArray := jdk_43_method_13_code
theorem d0 : decode yB 0 = .ok (.aload_n 0, 1) := by decide +kernel
theorem d1 : decode yB 1 = .ok (.arraylength, 1) := by decide +kernel
theorem d2 : decode yB 2 = .ok (.aload_n 1, 1) := by decide +kernel
theorem d3 : decode yB 3 = .ok (.arraylength, 1) := by decide +kernel
theorem d4 : decode yB 4 = .ok (.if_icmp (.ne) 30, 3) := by decide +kernel
theorem d7 : decode yB 7 = .ok (.iconst 0, 1) := by decide +kernel
theorem d8 : decode yB 8 = .ok (.istore_n 2, 1) := by decide +kernel
theorem d9 : decode yB 9 = .ok (.iload_n 2, 1) := by decide +kernel
theorem d10 : decode yB 10 = .ok (.aload_n 0, 1) := by decide +kernel
theorem d11 : decode yB 11 = .ok (.arraylength, 1) := by decide +kernel
theorem d12 : decode yB 12 = .ok (.if_icmp (.ge) 20, 3) := by decide +kernel
theorem d15 : decode yB 15 = .ok (.aload_n 0, 1) := by decide +kernel
theorem d16 : decode yB 16 = .ok (.iload_n 2, 1) := by decide +kernel
theorem d17 : decode yB 17 = .ok (.baload, 1) := by decide +kernel
theorem d18 : decode yB 18 = .ok (.aload_n 1, 1) := by decide +kernel
theorem d19 : decode yB 19 = .ok (.iload_n 2, 1) := by decide +kernel
theorem d20 : decode yB 20 = .ok (.baload, 1) := by decide +kernel
theorem d21 : decode yB 21 = .ok (.if_icmp (.eq) 5, 3) := by decide +kernel
theorem d24 : decode yB 24 = .ok (.iconst 0, 1) := by decide +kernel
theorem d25 : decode yB 25 = .ok (.ireturn, 1) := by decide +kernel
theorem d26 : decode yB 26 = .ok (.iinc 2 1, 3) := by decide +kernel
theorem d29 : decode yB 29 = .ok (.goto (-20), 3) := by decide +kernel
theorem d32 : decode yB 32 = .ok (.iconst 1, 1) := by decide +kernel
theorem d33 : decode yB 33 = .ok (.ireturn, 1) := by decide +kernel
theorem d34 : decode yB 34 = .ok (.iconst 0, 1) := by decide +kernel
theorem d35 : decode yB 35 = .ok (.ireturn, 1) := by decide +kernel
def site : List Cond := []
def tab : Cond := tabOf yN yB 3 (some .boolean) site
def P (a : Addr) (A : Cell) (b : Addr) (B : Cell) (args : Array Value) (s : State) : Prop := args = #[.ref a, .ref b] ∧ XT.Arr .byte a A s ∧ Typed .byte A ∧ XT.Arr .byte b B s ∧ Typed .byte B
/-- whether two byte[] are equal, place for place -/
theorem law (l : Launch) (a : Addr) (A : Cell) (b : Addr) (B : Cell) : Law l yN 2 2 0 0 yB 3 (some .boolean) site (P a A b B) (Says01 (EqC A B)) [] 0 0 := by
  refine Law.of_walk (plainFor_of_name (by decide +kernel)) (by decide +kernel) (by decide +kernel) (by decide) (fun _ _ h => by rw [h.1]; rfl) (fun _ U U' hal hh h => ⟨h.1, h.2.1.mv hal hh, h.2.2.1, h.2.2.2.1.mv hal hh, h.2.2.2.2⟩) (fun r U U' V V' h1 hal h2 h => Says01.mv r U U' V V' h1 hal h2 h) ?_
  intro p e s m args below meth c s₁ X0 hexec hbytes hml hret hlk hnm hown hh0 W hP
  obtain ⟨rfl, hA, tA, hB, tB⟩ := hP
  have a31 := hA.2.2.2
  have b31 := hB.2.2.2
  have hA0 := hA.mv X0.warmed.alike hh0
  have hB0 := hB.mv X0.warmed.alike hh0
  have c1 : Steps p.tables e below (s₁.setTop (entryFrame m #[.ref a, .ref b] 3)) (s₁.setTop (mkF m 0 #[.val (.ref a), .val (.ref b), .unset] [])) := entry rfl
  have c2 : Steps p.tables e below (s₁.setTop (entryFrame m #[.ref a, .ref b] 3)) (s₁.setTop (mkF m 4 #[.val (.ref a), .val (.ref b), .unset] [.int (Int32.ofNat B.slots.size), .int (Int32.ofNat A.slots.size)])) := c1.trans (by
    refine XS.aloadN X0.here hexec rfl (hb hbytes d0) rfl rfl ?_
    refine X0.alen hexec hA0 rfl rfl (hb hbytes d1) ?_
    refine XS.aloadN X0.here hexec rfl (hb hbytes d2) rfl rfl ?_
    refine X0.alen hexec hB0 rfl rfl (hb hbytes d3) ?_
    exact Steps.refl _)
  by_cases hs : A.slots.size = B.slots.size
  · have c3 : Steps p.tables e below (s₁.setTop (entryFrame m #[.ref a, .ref b] 3)) (s₁.setTop (mkF m 9 #[.val (.ref a), .val (.ref b), .val (.int 0)] [])) := c2.trans (by
      refine XS.icmpNo X0.here hexec rfl (hb hbytes d4) rfl (ii_ne_f (by rw [hs])) ?_
      refine iconstV X0.here hexec rfl 0 (hb hbytes d7) (by decide) ?_
      refine XS.istoreN X0.here hexec rfl (hb hbytes d8) rfl rfl ?_
      exact Steps.refl _)
    have loop : ∀ (r i : Nat), i + r = A.slots.size → (∀ j, j < i → yv A j = yv B j) → Steps p.tables e below (s₁.setTop (entryFrame m #[.ref a, .ref b] 3)) (s₁.setTop (mkF m 9 #[.val (.ref a), .val (.ref b), .val (.int (Int32.ofNat i))] [])) → ∃ (pc : Nat) (Ls : Array Slot) (v : Int32), (pc = 25 ∨ pc = 33) ∧ ((v = 1 ∧ EqC A B) ∨ (v = 0 ∧ ¬ EqC A B)) ∧ Steps p.tables e below (s₁.setTop (entryFrame m #[.ref a, .ref b] 3)) (s₁.setTop (mkF m pc Ls [.int v])) := by
      intro r
      induction r with
      | zero =>
        intro i hi he cl
        exact ⟨33, _, 1, Or.inr rfl, Or.inl ⟨rfl, hs, fun j hj => he j (by omega)⟩, cl.trans (by
          refine XS.iloadN X0.here hexec rfl (hb hbytes d9) rfl ?_
          refine XS.aloadN X0.here hexec rfl (hb hbytes d10) rfl rfl ?_
          refine X0.alen hexec hA0 rfl rfl (hb hbytes d11) ?_
          refine XS.icmpYes X0.here hexec rfl (pc0 := 12) rfl (hb hbytes d12) rfl (ii_ge_t (nlt32 (by omega) (by omega))) (by decide) rfl ?_
          refine iconstV X0.here hexec rfl 1 (hb hbytes d32) (by decide) ?_
          exact Steps.refl _)⟩
      | succ r ih =>
        intro i hi he cl
        have c4 : Steps p.tables e below (s₁.setTop (entryFrame m #[.ref a, .ref b] 3)) (s₁.setTop (mkF m 21 #[.val (.ref a), .val (.ref b), .val (.int (Int32.ofNat i))] [.int (yv B i), .int (yv A i)])) := cl.trans (by
          refine XS.iloadN X0.here hexec rfl (hb hbytes d9) rfl ?_
          refine XS.aloadN X0.here hexec rfl (hb hbytes d10) rfl rfl ?_
          refine X0.alen hexec hA0 rfl rfl (hb hbytes d11) ?_
          refine XS.icmpNo X0.here hexec rfl (hb hbytes d12) rfl (ii_ge_f (lt32 (by omega) (by omega))) ?_
          refine XS.aloadN X0.here hexec rfl (hb hbytes d15) rfl rfl ?_
          refine XS.iloadN X0.here hexec rfl (hb hbytes d16) rfl ?_
          refine X0.aget hexec hA0 rfl (yv_get hA tA (i := i) (by omega)) rfl rfl (hb hbytes d17) ?_
          refine XS.aloadN X0.here hexec rfl (hb hbytes d18) rfl rfl ?_
          refine XS.iloadN X0.here hexec rfl (hb hbytes d19) rfl ?_
          refine X0.aget hexec hB0 rfl (yv_get hB tB (i := i) (by omega)) rfl rfl (hb hbytes d20) ?_
          exact Steps.refl _)
        by_cases hv : yv A i = yv B i
        · have c5 : Steps p.tables e below (s₁.setTop (entryFrame m #[.ref a, .ref b] 3)) (s₁.setTop (mkF m 9 #[.val (.ref a), .val (.ref b), .val (.int (Int32.ofNat i + 1))] [])) := c4.trans (by
            refine XS.icmpYes X0.here hexec rfl (pc0 := 21) rfl (hb hbytes d21) rfl (ii_eq_t hv) (by decide) rfl ?_
            refine iincV X0.here hexec rfl 1 (hb hbytes d26) (by decide) rfl rfl ?_
            refine XS.goto X0.here hexec rfl (pc0 := 29) rfl (hb hbytes d29) (by decide) rfl ?_
            exact Steps.refl _)
          rw [succ32] at c5
          exact ih (i + 1) (by omega) (fun j hj => by
            by_cases e : j = i
            · rw [e]; exact hv
            · exact he j (by omega)) c5
        · exact ⟨25, _, 0, Or.inl rfl, Or.inr ⟨rfl, fun q => hv (q.2 i (by omega))⟩, c4.trans (by
            refine XS.icmpNo X0.here hexec rfl (hb hbytes d21) rfl (ii_eq_f hv) ?_
            refine iconstV X0.here hexec rfl 0 (hb hbytes d24) (by decide) ?_
            exact Steps.refl _)⟩
    obtain ⟨pc, Ls, v, hpc, hv, cz⟩ := loop A.slots.size 0 (by omega) (fun j hj => absurd hj (Nat.not_lt_zero j)) c3
    have nv : narrow .boolean (.int v) = .int v := by rcases hv with ⟨rfl, -⟩ | ⟨rfl, -⟩ <;> rfl
    rcases hpc with rfl | rfl
    · exact ⟨s₁, some (.int v), _, _, _, X0, rfl, rfl, rfl, (fun h => by cases h), ⟨v, rfl, hh0, hv⟩, fun fs hl => cz.trans (X0.ireturnOut hexec hret nv (Or.inr (Or.inl rfl)) (hb hbytes d25) hl)⟩
    · exact ⟨s₁, some (.int v), _, _, _, X0, rfl, rfl, rfl, (fun h => by cases h), ⟨v, rfl, hh0, hv⟩, fun fs hl => cz.trans (X0.ireturnOut hexec hret nv (Or.inr (Or.inl rfl)) (hb hbytes d33) hl)⟩
  · have c3 : Steps p.tables e below (s₁.setTop (entryFrame m #[.ref a, .ref b] 3)) (s₁.setTop (mkF m 35 #[.val (.ref a), .val (.ref b), .unset] [.int 0])) := c2.trans (by
      refine XS.icmpYes X0.here hexec rfl (pc0 := 4) rfl (hb hbytes d4) rfl (ii_ne_t (ne32 a31 b31 hs)) (by decide) rfl ?_
      refine iconstV X0.here hexec rfl 0 (hb hbytes d34) (by decide) ?_
      exact Steps.refl _)
    exact ⟨s₁, some (.int 0), _, _, _, X0, rfl, rfl, rfl, (fun h => by cases h), ⟨0, rfl, hh0, Or.inr ⟨rfl, fun q => hs q.1⟩⟩, fun fs hl => c3.trans (X0.ireturnOut hexec hret rfl (Or.inr (Or.inl rfl)) (hb hbytes d35) hl)⟩
end LEq
theorem Cod.ty {cd : Int32} {n : Nat} {f : Nat → Int32} {V : Cell} (h : Cod cd n f V) : Typed .byte V := fun i v hv => by
  have hi : i < V.slots.size := (Array.getElem?_eq_some_iff.mp hv).1
  rcases h with ⟨-, k1, k2⟩ | ⟨-, k1, k2, -⟩
  · rw [(k2 i (by omega)).1] at hv; cases hv; exact fits_lo8 _
  · rcases Nat.mod_two_eq_zero_or_one i with e | e
    · obtain ⟨j, rfl⟩ : ∃ j, i = 2 * j := ⟨i / 2, by omega⟩
      rw [(k2 j (by omega)).1] at hv; cases hv; exact fits_lo8 _
    · obtain ⟨j, rfl⟩ : ∃ j, i = 2 * j + 1 := ⟨i / 2, by omega⟩
      rw [(k2 j (by omega)).2] at hv; cases hv; exact fits_lo8 _
/-- the same text -/
def SameT (n : Nat) (f : Nat → Int32) (k : Nat) (g : Nat → Int32) : Prop := n = k ∧ ∀ j, j < n → f j = g j
theorem lo8_inj {x y : Int32} (h0 : ¬ x < 0) (h1 : ¬ 255 < x) (k0 : ¬ y < 0) (k1 : ¬ 255 < y) (h : lo8 x = lo8 y) : x = y := by
  rw [← lo8_mask h0 h1, ← lo8_mask k0 k1, h]
/-- arrays coded by one coder are equal just where the texts are -/
theorem Cod.eqv {cd : Int32} {n k : Nat} {f g : Nat → Int32} {V V' : Cell} (h : Cod cd n f V) (h' : Cod cd k g V') (hf : ∀ j, j < n → ¬ f j < 0 ∧ ¬ 65535 < f j) (hg : ∀ j, j < k → ¬ g j < 0 ∧ ¬ 65535 < g j) : EqC V V' ↔ SameT n f k g := by
  have yvv : ∀ {W : Cell} {i : Nat} {x : Int32}, W.slots[i]? = some (.int x) → yv W i = x := fun q => by unfold yv; rw [q]
  rcases h with ⟨rfl, k1, k2⟩ | ⟨rfl, k1, k2, -⟩
  · rcases h' with ⟨-, m1, m2⟩ | ⟨e, -⟩
    · constructor
      · rintro ⟨e1, e2⟩
        refine ⟨by omega, fun j hj => ?_⟩
        have q := e2 j (by omega)
        rw [yvv (k2 j hj).1, yvv (m2 j (by omega)).1] at q
        exact lo8_inj (hf j hj).1 (k2 j hj).2 (hg j (by omega)).1 (m2 j (by omega)).2 q
      · rintro ⟨rfl, e2⟩
        refine ⟨by omega, fun j hj => ?_⟩
        rw [yvv (k2 j (by omega)).1, yvv (m2 j (by omega)).1, e2 j (by omega)]
    · exact absurd e (by decide)
  · rcases h' with ⟨e, -⟩ | ⟨-, m1, m2, -⟩
    · exact absurd e (by decide)
    · constructor
      · rintro ⟨e1, e2⟩
        refine ⟨by omega, fun j hj => ?_⟩
        have q1 := e2 (2 * j) (by omega)
        have q2 := e2 (2 * j + 1) (by omega)
        rw [yvv (k2 j hj).1, yvv (m2 j (by omega)).1] at q1
        rw [yvv (k2 j hj).2, yvv (m2 j (by omega)).2] at q2
        rw [← pair_says (hf j hj).1 (hf j hj).2, ← pair_says (hg j (by omega)).1 (hg j (by omega)).2, q1, q2]
      · rintro ⟨rfl, e2⟩
        refine ⟨by omega, fun i hi => ?_⟩
        rcases Nat.mod_two_eq_zero_or_one i with e | e
        · obtain ⟨j, rfl⟩ : ∃ j, i = 2 * j := ⟨i / 2, by omega⟩
          rw [yvv (k2 j (by omega)).1, yvv (m2 j (by omega)).1, e2 j (by omega)]
        · obtain ⟨j, rfl⟩ : ∃ j, i = 2 * j + 1 := ⟨i / 2, by omega⟩
          rw [yvv (k2 j (by omega)).2, yvv (m2 j (by omega)).2, e2 j (by omega)]
/-- two codings differ: so do the texts -/
theorem Cod.dif {cd cd' : Int32} {n k : Nat} {f g : Nat → Int32} {V V' : Cell} (h : Cod cd n f V) (h' : Cod cd' k g V') (hne : ¬ cd = cd') : ¬ SameT n f k g := by
  rintro ⟨rfl, e⟩
  rcases h with ⟨rfl, -, k2⟩ | ⟨rfl, -, -, j, hj, hw⟩
  · rcases h' with ⟨rfl, -⟩ | ⟨-, -, -, j, hj, hw⟩
    · exact hne rfl
    · exact (k2 j hj).2 (by rw [e j hj]; exact hw)
  · rcases h' with ⟨-, -, m2⟩ | ⟨rfl, -⟩
    · exact (m2 j hj).2 (by rw [← e j hj]; exact hw)
    · exact hne rfl
/-- an object of exactly C is an instance of C -/
theorem cinst {p : Program} {l : Launch} {e : Env} {R : Room} {s : State} {m : MethodId} {args : Array Value} {below : List Frame} {meth : Method} {c : Code} {T : State} {locs : List Loc} {cells slots : Nat} (X : Stand p l e R s m args below meth c T locs cells slots) (hexec : p.tables.exec = Jvm.exec) {own C : String} {index : Nat} (hown : s.vm.findClass own = some m.cls) (hlink : (Cond.classLink own index C).before args s = true) {a : Addr} (hE : Exact C a T)
    {g : JFrame} (hg : g.method = m) {rest : List Value} (hstack : g.stack = .ref a :: rest) (hdg : decode c.code g.pc = .ok (.instanceof index, 3)) :
    ∃ T', Stand p l e R s m args below meth c T' locs cells slots ∧ T'.heap = T.heap ∧ ∀ target, Steps p.tables e below (T'.setTop { g with pc := g.pc + 3, stack := .int 1 :: rest }) target → Steps p.tables e below (T.setTop g) target := by
  obtain ⟨cB, h1, D, h2, h3, h4⟩ := hE
  have h1' : s.vm.findClass C = some cB := by rw [← X.warmed.alike.findClass]; exact h1
  obtain ⟨vm', X', st⟩ := X.instanceofYes hexec hown hlink h2 h4 h1' (by rw [h3]; exact Jvm.Free.SB.assignable_self _ _) hg hstack hdg
  exact ⟨_, X', rfl, st⟩
theorem cself {p : Program} {l : Launch} {e : Env} {R : Room} {s : State} {m : MethodId} {args : Array Value} {below : List Frame} {meth : Method} {c : Code} {T : State} {locs : List Loc} {cells slots : Nat} (X : Stand p l e R s m args below meth c T locs cells slots) (hexec : p.tables.exec = Jvm.exec) {own C : String} {index : Nat} (hown : s.vm.findClass own = some m.cls) (hlink : (Cond.classLink own index C).before args s = true) {a : Addr} (hE : Exact C a T)
    {g : JFrame} (hg : g.method = m) {rest : List Value} (hstack : g.stack = .ref a :: rest) (hdg : decode c.code g.pc = .ok (.checkcast index, 3)) :
    ∃ T', Stand p l e R s m args below meth c T' locs cells slots ∧ T'.heap = T.heap ∧ ∀ target, Steps p.tables e below (T'.setTop { g with pc := g.pc + 3, stack := .ref a :: rest }) target → Steps p.tables e below (T.setTop g) target := by
  obtain ⟨cB, h1, D, h2, h3, h4⟩ := hE
  have h1' : s.vm.findClass C = some cB := by rw [← X.warmed.alike.findClass]; exact h1
  obtain ⟨vm', X', st⟩ := X.checkcastYes hexec hown hlink h2 h4 h1' (by rw [h3]; exact Jvm.Free.SB.assignable_self _ _) hg hstack hdg
  exact ⟨_, X', rfl, fun t h => st t (by rw [← hstack] at h; exact h)⟩
namespace SEq
def yN : MethodName := ⟨"java/lang/String", "equals", "(Ljava/lang/Object;)Z"⟩
abbrev yB : ByteArray := jdk_42_method_66_code
theorem d0 : decode yB 0 = .ok (.aload_n 0, 1) := by decide +kernel
theorem d1 : decode yB 1 = .ok (.aload_n 1, 1) := by decide +kernel
theorem d2 : decode yB 2 = .ok (.if_acmp (.ne) 5, 3) := by decide +kernel
theorem d5 : decode yB 5 = .ok (.iconst 1, 1) := by decide +kernel
theorem d6 : decode yB 6 = .ok (.ireturn, 1) := by decide +kernel
theorem d7 : decode yB 7 = .ok (.aload_n 1, 1) := by decide +kernel
theorem d8 : decode yB 8 = .ok (.instanceof 10, 3) := by decide +kernel
theorem d11 : decode yB 11 = .ok (.ifCond (.eq) 43, 3) := by decide +kernel
theorem d14 : decode yB 14 = .ok (.aload_n 1, 1) := by decide +kernel
theorem d15 : decode yB 15 = .ok (.checkcast 10, 3) := by decide +kernel
theorem d18 : decode yB 18 = .ok (.astore_n 2, 1) := by decide +kernel
theorem d19 : decode yB 19 = .ok (.getstatic 38, 3) := by decide +kernel
theorem d22 : decode yB 22 = .ok (.ifCond (.eq) 14, 3) := by decide +kernel
theorem d25 : decode yB 25 = .ok (.aload_n 0, 1) := by decide +kernel
theorem d26 : decode yB 26 = .ok (.getfield 15, 3) := by decide +kernel
theorem d29 : decode yB 29 = .ok (.aload_n 2, 1) := by decide +kernel
theorem d30 : decode yB 30 = .ok (.getfield 15, 3) := by decide +kernel
theorem d33 : decode yB 33 = .ok (.if_icmp (.ne) 21, 3) := by decide +kernel
theorem d36 : decode yB 36 = .ok (.aload_n 0, 1) := by decide +kernel
theorem d37 : decode yB 37 = .ok (.getfield 9, 3) := by decide +kernel
theorem d40 : decode yB 40 = .ok (.aload_n 2, 1) := by decide +kernel
theorem d41 : decode yB 41 = .ok (.getfield 9, 3) := by decide +kernel
theorem d44 : decode yB 44 = .ok (.invokestatic 541, 3) := by decide +kernel
theorem d47 : decode yB 47 = .ok (.ifCond (.eq) 7, 3) := by decide +kernel
theorem d50 : decode yB 50 = .ok (.iconst 1, 1) := by decide +kernel
theorem d51 : decode yB 51 = .ok (.goto 4, 3) := by decide +kernel
theorem d54 : decode yB 54 = .ok (.iconst 0, 1) := by decide +kernel
theorem d55 : decode yB 55 = .ok (.ireturn, 1) := by decide +kernel
def site : List Cond := [.classLink "java/lang/String" 10 "java/lang/String", .fieldLink "java/lang/String" 38 "java/lang/String" "COMPACT_STRINGS" "Z", .fieldLink "java/lang/String" 15 "java/lang/String" "coder" "B", .fieldLink "java/lang/String" 9 "java/lang/String" "value" "[B", LEq.tab] ++ staticW "java/lang/String" 541 LEq.yN
def tab : Cond := tabOf yN yB 3 (some .boolean) site
def P (x t : Addr) (V : Cell) (cd : Int32) (n : Nat) (f : Nat → Int32) (y t' : Addr) (V' : Cell) (cd' : Int32) (k : Nat) (g : Nat → Int32) (z : Int32) (args : Array Value) (s : State) : Prop := args = #[.ref x, .ref y] ∧ Txt x t V cd n f s ∧ Txt y t' V' cd' k g s ∧ StaticIs s "java/lang/String" "COMPACT_STRINGS" "Z" (.int z) ∧ ¬ z = 0
/-- equals(Object) of two Strings: whether the texts are the same -/
theorem law (l : Launch) (x t : Addr) (V : Cell) (cd : Int32) (n : Nat) (f : Nat → Int32) (y t' : Addr) (V' : Cell) (cd' : Int32) (k : Nat) (g : Nat → Int32) (z : Int32) : Law l yN 2 1 1 14 yB 3 (some .boolean) site (P x t V cd n f y t' V' cd' k g z) (Says01 (SameT n f k g)) [] 0 0 := by
  refine Law.of_walk (plainFor_of_name (by decide +kernel)) (by decide +kernel) (by decide +kernel) (by decide) (fun _ _ h => by rw [h.1]; rfl) (fun _ U U' hal hh h => ⟨h.1, h.2.1.mv hal hh, h.2.2.1.mv hal hh, h.2.2.2.1.there hal hh, h.2.2.2.2⟩) (fun r U U' V V' h1 hal h2 h => Says01.mv r U U' V V' h1 hal h2 h) ?_
  intro p e s m args below meth c s₁ X0 hexec hbytes hml hret hlk hnm hown hh0 W hP
  obtain ⟨rfl, hx, hy, s1, hz⟩ := hP
  have c1 : Steps p.tables e below (s₁.setTop (entryFrame m #[.ref x, .ref y] 3)) (s₁.setTop (mkF m 2 #[.val (.ref x), .val (.ref y), .unset] [.ref y, .ref x])) := Steps.trans (entry rfl) (by
    show Steps p.tables e below (s₁.setTop (mkF m 0 #[.val (.ref x), .val (.ref y), .unset] [])) _
    refine XS.aloadN X0.here hexec rfl (hb hbytes d0) rfl rfl ?_
    refine XS.aloadN X0.here hexec rfl (hb hbytes d1) rfl rfl ?_
    exact Steps.refl _)
  by_cases hxy : x = y
  · have c2 : Steps p.tables e below (s₁.setTop (entryFrame m #[.ref x, .ref y] 3)) (s₁.setTop (mkF m 6 #[.val (.ref x), .val (.ref y), .unset] [.int 1])) := c1.trans (by
      refine acmpNo X0.here hexec rfl (hb hbytes d2) rfl rfl rfl (by simp [acmp, hxy]) ?_
      refine iconstV X0.here hexec rfl 1 (hb hbytes d5) (by decide) ?_
      exact Steps.refl _)
    subst hxy
    have ec : cd = cd' := by
      obtain ⟨D, fd, a1, a2, a3⟩ := hx.2.2.1
      obtain ⟨D', fd', b1, b2, b3⟩ := hy.2.2.1
      cases a1.symm.trans b1
      obtain ⟨q1, q2, q3, q4⟩ := a2.1
      obtain ⟨r1, r2, r3, r4⟩ := b2.1
      cases q4.symm.trans r4
      cases a3.symm.trans b3; rfl
    have et : t = t' := by
      obtain ⟨D, fd, a1, a2, a3⟩ := hx.2.1
      obtain ⟨D', fd', b1, b2, b3⟩ := hy.2.1
      cases a1.symm.trans b1
      obtain ⟨q1, q2, q3, q4⟩ := a2.1
      obtain ⟨r1, r2, r3, r4⟩ := b2.1
      cases q4.symm.trans r4
      cases a3.symm.trans b3; rfl
    subst ec et
    have ev : V = V' := by cases hx.2.2.2.1.1.symm.trans hy.2.2.2.1.1; rfl
    subst ev
    have hs : SameT n f k g := (Cod.eqv hx.2.2.2.2.1 hy.2.2.2.2.1 hx.2.2.2.2.2 hy.2.2.2.2.2).mp ⟨rfl, fun _ _ => rfl⟩
    exact ⟨s₁, some (.int 1), _, _, _, X0, rfl, rfl, rfl, (fun h => by cases h), ⟨1, rfl, hh0, Or.inl ⟨rfl, hs⟩⟩, fun fs hl => c2.trans (X0.ireturnOut hexec hret rfl (Or.inr (Or.inl rfl)) (hb hbytes d6) hl)⟩
  · have c2 : Steps p.tables e below (s₁.setTop (entryFrame m #[.ref x, .ref y] 3)) (s₁.setTop (mkF m 8 #[.val (.ref x), .val (.ref y), .unset] [.ref y])) := c1.trans (by
      refine acmpYes X0.here hexec rfl (pc0 := 2) rfl (hb hbytes d2) rfl rfl rfl (by simp [acmp, hxy]) (by decide) rfl ?_
      refine XS.aloadN X0.here hexec rfl (hb hbytes d7) rfl rfl ?_
      exact Steps.refl _)
    obtain ⟨T3, X3, q3, st3⟩ := cinst X0 hexec hown (wk W (.classLink "java/lang/String" 10 "java/lang/String")) (hy.mv X0.warmed.alike hh0).1 (g := (mkF m 8 #[.val (.ref x), .val (.ref y), .unset] [.ref y])) rfl (rest := []) rfl (hb hbytes d8)
    have hh3 := q3.trans hh0
    have c4 : Steps p.tables e below (s₁.setTop (entryFrame m #[.ref x, .ref y] 3)) (T3.setTop (mkF m 15 #[.val (.ref x), .val (.ref y), .unset] [.ref y])) := (c2.trans (st3 _ (Steps.refl _))).trans (by
      refine XS.ifNo X3.here hexec rfl (hb hbytes d11) rfl (i0_eq_f (by decide)) ?_
      refine XS.aloadN X3.here hexec rfl (hb hbytes d14) rfl rfl ?_
      exact Steps.refl _)
    obtain ⟨T5, X5, q5, st5⟩ := cself X3 hexec hown (wk W (.classLink "java/lang/String" 10 "java/lang/String")) (hy.mv X3.warmed.alike hh3).1 (g := (mkF m 15 #[.val (.ref x), .val (.ref y), .unset] [.ref y])) rfl (rest := []) rfl (hb hbytes d15)
    have hh5 := q5.trans hh3
    have c6 : Steps p.tables e below (s₁.setTop (entryFrame m #[.ref x, .ref y] 3)) (T5.setTop (mkF m 19 #[.val (.ref x), .val (.ref y), .val (.ref y)] [])) := (c4.trans (st5 _ (Steps.refl _))).trans (by
      refine XS.astoreN X5.here hexec rfl (hb hbytes d18) rfl rfl rfl ?_
      exact Steps.refl _)
    obtain ⟨T7, X7, q7, st7⟩ := X5.sget hexec hown (wk W (.fieldLink "java/lang/String" 38 "java/lang/String" "COMPACT_STRINGS" "Z")) s1 (fun _ _ h => by rw [hh5]; exact h) (g := (mkF m 19 #[.val (.ref x), .val (.ref y), .val (.ref y)] [])) rfl (hb hbytes d19)
    have hh7 := q7.trans hh5
    have c8 : Steps p.tables e below (s₁.setTop (entryFrame m #[.ref x, .ref y] 3)) (T7.setTop (mkF m 26 #[.val (.ref x), .val (.ref y), .val (.ref y)] [.ref x])) := (c6.trans (st7 _ (Steps.refl _))).trans (by
      refine XS.ifNo X7.here hexec rfl (hb hbytes d22) rfl (i0_eq_f hz) ?_
      refine XS.aloadN X7.here hexec rfl (hb hbytes d25) rfl rfl ?_
      exact Steps.refl _)
    obtain ⟨T9, X9, q9, st9⟩ := X7.hget hexec hown (wk W (.fieldLink "java/lang/String" 15 "java/lang/String" "coder" "B")) (hx.mv X7.warmed.alike hh7).2.2.1 (g := (mkF m 26 #[.val (.ref x), .val (.ref y), .val (.ref y)] [.ref x])) rfl (rest := []) rfl (hb hbytes d26)
    have hh9 := q9.trans hh7
    have c10 : Steps p.tables e below (s₁.setTop (entryFrame m #[.ref x, .ref y] 3)) (T9.setTop (mkF m 30 #[.val (.ref x), .val (.ref y), .val (.ref y)] [.ref y, .int cd])) := (c8.trans (st9 _ (Steps.refl _))).trans (by
      refine XS.aloadN X9.here hexec rfl (hb hbytes d29) rfl rfl ?_
      exact Steps.refl _)
    obtain ⟨T11, X11, q11, st11⟩ := X9.hget hexec hown (wk W (.fieldLink "java/lang/String" 15 "java/lang/String" "coder" "B")) (hy.mv X9.warmed.alike hh9).2.2.1 (g := (mkF m 30 #[.val (.ref x), .val (.ref y), .val (.ref y)] [.ref y, .int cd])) rfl (rest := [.int cd]) rfl (hb hbytes d30)
    have hh11 := q11.trans hh9
    have c12 : Steps p.tables e below (s₁.setTop (entryFrame m #[.ref x, .ref y] 3)) (T11.setTop (mkF m 33 #[.val (.ref x), .val (.ref y), .val (.ref y)] [.int cd', .int cd])) := c10.trans (st11 _ (Steps.refl _))
    by_cases hcd : cd = cd'
    · subst hcd
      have c13 : Steps p.tables e below (s₁.setTop (entryFrame m #[.ref x, .ref y] 3)) (T11.setTop (mkF m 37 #[.val (.ref x), .val (.ref y), .val (.ref y)] [.ref x])) := c12.trans (by
        refine XS.icmpNo X11.here hexec rfl (hb hbytes d33) rfl (ii_ne_f rfl) ?_
        refine XS.aloadN X11.here hexec rfl (hb hbytes d36) rfl rfl ?_
        exact Steps.refl _)
      obtain ⟨T14, X14, q14, st14⟩ := X11.hget hexec hown (wk W (.fieldLink "java/lang/String" 9 "java/lang/String" "value" "[B")) (hx.mv X11.warmed.alike hh11).2.1 (g := (mkF m 37 #[.val (.ref x), .val (.ref y), .val (.ref y)] [.ref x])) rfl (rest := []) rfl (hb hbytes d37)
      have hh14 := q14.trans hh11
      have c15 : Steps p.tables e below (s₁.setTop (entryFrame m #[.ref x, .ref y] 3)) (T14.setTop (mkF m 41 #[.val (.ref x), .val (.ref y), .val (.ref y)] [.ref y, .ref t])) := (c13.trans (st14 _ (Steps.refl _))).trans (by
        refine XS.aloadN X14.here hexec rfl (hb hbytes d40) rfl rfl ?_
        exact Steps.refl _)
      obtain ⟨T16, X16, q16, st16⟩ := X14.hget hexec hown (wk W (.fieldLink "java/lang/String" 9 "java/lang/String" "value" "[B")) (hy.mv X14.warmed.alike hh14).2.1 (g := (mkF m 41 #[.val (.ref x), .val (.ref y), .val (.ref y)] [.ref y, .ref t])) rfl (rest := [.ref t]) rfl (hb hbytes d41)
      have hh16 := q16.trans hh14
      have c17 : Steps p.tables e below (s₁.setTop (entryFrame m #[.ref x, .ref y] 3)) (T16.setTop (mkF m 44 #[.val (.ref x), .val (.ref y), .val (.ref y)] [.ref t', .ref t])) := c15.trans (st16 _ (Steps.refl _))
      obtain ⟨v18, T18, X18, E18, g18⟩ := X16.callS hexec (LEq.law l t V t' V') hown (wks W (staticW "java/lang/String" 541 LEq.yN)) (wk W LEq.tab) (W := 0) (Nat.le_of_ble_eq_true rfl) (Nat.le_of_ble_eq_true rfl) (Nat.le_refl _) (Nat.le_refl _) (g := (mkF m 44 #[.val (.ref x), .val (.ref y), .val (.ref y)] [.ref t', .ref t])) rfl (by rw [hml]; rfl) c17 (argsL := [.ref t, .ref t']) (rest := []) rfl rfl (by show 2 * 0 + 0 ≤ _; decide) (hb hbytes d44) (⟨rfl, hx.2.2.2.1.mv X16.warmed.alike hh16, hx.2.2.2.2.1.ty, hy.2.2.2.1.mv X16.warmed.alike hh16, hy.2.2.2.2.1.ty⟩)
      obtain ⟨v, rfl, q18, hv⟩ := E18
      have iff := Cod.eqv hx.2.2.2.2.1 hy.2.2.2.2.1 hx.2.2.2.2.2 hy.2.2.2.2.2
      rcases hv with ⟨rfl, he⟩ | ⟨rfl, he⟩
      · have c19 : Steps p.tables e below (s₁.setTop (entryFrame m #[.ref x, .ref y] 3)) (T18.setTop (mkF m 55 #[.val (.ref x), .val (.ref y), .val (.ref y)] [.int 1])) := Steps.trans g18 (by
          refine XS.ifNo X18.here hexec rfl (hb hbytes d47) rfl (i0_eq_f (by decide)) ?_
          refine iconstV X18.here hexec rfl 1 (hb hbytes d50) (by decide) ?_
          refine XS.goto X18.here hexec rfl (pc0 := 51) rfl (hb hbytes d51) (by decide) rfl ?_
          exact Steps.refl _)
        exact ⟨T18, some (.int 1), _, _, _, X18, rfl, rfl, rfl, (fun h => by cases h), ⟨1, rfl, q18.trans hh16, Or.inl ⟨rfl, iff.mp he⟩⟩, fun fs hl => c19.trans (X18.ireturnOut hexec hret rfl (Or.inr (Or.inl rfl)) (hb hbytes d55) hl)⟩
      · have c19 : Steps p.tables e below (s₁.setTop (entryFrame m #[.ref x, .ref y] 3)) (T18.setTop (mkF m 55 #[.val (.ref x), .val (.ref y), .val (.ref y)] [.int 0])) := Steps.trans g18 (by
          refine XS.ifYes X18.here hexec rfl (pc0 := 47) rfl (hb hbytes d47) rfl (i0_eq_t rfl) (by decide) rfl ?_
          refine iconstV X18.here hexec rfl 0 (hb hbytes d54) (by decide) ?_
          exact Steps.refl _)
        exact ⟨T18, some (.int 0), _, _, _, X18, rfl, rfl, rfl, (fun h => by cases h), ⟨0, rfl, q18.trans hh16, Or.inr ⟨rfl, fun q => he (iff.mpr q)⟩⟩, fun fs hl => c19.trans (X18.ireturnOut hexec hret rfl (Or.inr (Or.inl rfl)) (hb hbytes d55) hl)⟩
    · have c13 : Steps p.tables e below (s₁.setTop (entryFrame m #[.ref x, .ref y] 3)) (T11.setTop (mkF m 55 #[.val (.ref x), .val (.ref y), .val (.ref y)] [.int 0])) := c12.trans (by
        refine XS.icmpYes X11.here hexec rfl (pc0 := 33) rfl (hb hbytes d33) rfl (ii_ne_t hcd) (by decide) rfl ?_
        refine iconstV X11.here hexec rfl 0 (hb hbytes d54) (by decide) ?_
        exact Steps.refl _)
      exact ⟨T11, some (.int 0), _, _, _, X11, rfl, rfl, rfl, (fun h => by cases h), ⟨0, rfl, hh11, Or.inr ⟨rfl, Cod.dif hx.2.2.2.2.1 hy.2.2.2.2.1 hcd⟩⟩, fun fs hl => c13.trans (X11.ireturnOut hexec hret rfl (Or.inr (Or.inl rfl)) (hb hbytes d55) hl)⟩
theorem pays {l : Launch} {R : Room} {p : Program} {e : Env} {below : List Frame} {s : State} {sargs : Array Value} {len W : Nat} (x t : Addr) (V : Cell) (cd : Int32) (n : Nat) (f : Nat → Int32) (y t' : Addr) (V' : Cell) (cd' : Int32) (k : Nat) (g : Nat → Int32) (z : Int32) (htab : tab.before sargs s = true) (hfr : 2 ≤ R.frames) (hlo : W + 28 ≤ R.locals) :
    Back l R p e below s sargs yN len W (fun A₁ a₁ => A₁.cells + 0 ≤ R.cells ∧ A₁.slots + 0 ≤ R.slots ∧ P x t V cd n f y t' V' cd' k g z a₁ A₁.U) (fun A₁ _ v₁ B₁ => Says01 (SameT n f k g) v₁ A₁.U B₁.U ∧ B₁.locs = A₁.locs ++ [] ∧ B₁.cells = A₁.cells + 0 ∧ B₁.slots = A₁.slots + 0) :=
  (law l x t V cd n f y t' V' cd' k g z).pays htab hfr (by omega)
end SEq
end StrChars
namespace StrChars.Road
open Jvm Sem ClassFile Op Lib Jvm.Stand Jvm.Free Jvm.Free.XT
open Jvm.Lib.Cold (StaticIs)
/-- the words of String.equals(Object) -/
abbrev wordsEq : List Jvm.Cond := [.code SEq.yN SEq.yB 3 (some .boolean), .initialized ST, .classLink ST 10 ST, .fieldLink ST 38 ST "COMPACT_STRINGS" "Z", .fieldLink ST 15 ST "coder" "B", .fieldLink ST 9 ST "value" "[B", .methodLink ST 541 LEq.yN, .static LEq.yN, .code LEq.yN LEq.yB 3 (some .boolean), .initialized "java/lang/StringLatin1"]
theorem tabEq_of {a : Array Value} {s : State} (h : ∀ w ∈ wordsEq, w.before a s = true) : SEq.tab.before a s = true := by
  have hl : LEq.tab.before a s = true := unparts (wk h (.code LEq.yN LEq.yB 3 (some .boolean))) (wks h (.initialized LEq.yN.cls :: LEq.site))
  have q := consq hl h
  exact unparts (wk q (.code SEq.yN SEq.yB 3 (some .boolean))) (wks q (.initialized SEq.yN.cls :: SEq.site))
theorem movedEq {Z s : State} {a0 args : Array Value} (hZ : Z.Warmed39 s.vm) (hw : ∀ d ∈ wordsEq, d.before a0 Z = true) : ∀ d ∈ wordsEq, d.before args s = true := fun d hd => by
  have t : ∀ d ∈ wordsEq, (d.onTables && d.keepsFace) = true := by decide +kernel
  exact RoadKit.mv hZ (hw d hd) (t d hd)
/-- the road's facts of a String, as the laws ask it -/
theorem txt_of {Z U : State} {a0 : Array Value} {kI : Nat} (wi : (Jvm.Cond.instantiable ST kI).before a0 Z = true) (al : Z.vm.Alike U.vm) {x t : Addr} {kb : ClassId} {cs : List Int32} {cd N2 : Int32} {vs : List Value} (E : RoadKit.Exa Z U.heap x ST) (V : RoadKit.Fld Z U.heap x ST "value" "[B" (.ref t)) (C : RoadKit.Fld Z U.heap x ST "coder" "B" (.int cd)) (K : RoadKit.Arv Z U.heap t kb .byte N2 vs (.int 0)) (hc : CodA cs cd N2 vs) (hb : ∀ c ∈ cs, ¬ c < 0 ∧ ¬ (65535 : Int32) < c) (l2 : cs.length ≤ 4000) :
    ∃ A, Txt x t A cd cs.length (fun j => cs.getD j 0) U := by
  obtain ⟨A, K1, K2, K3, K4, K5, K6⟩ := K
  have hcod := hc.cod (by omega) K3 K5
  obtain ⟨D, fV, fC, hB, F1, F2, g1, g2, -, -⟩ := strObj wi al E V C
  exact ⟨A, ⟨_, hB.2.2.1, D, hB.1, rfl, by cases q : D.vm <;> first | rfl | exact absurd q (hB.2.1.2 _)⟩, Has.of hB F1 g1, Has.of hB F2 g2, ⟨K1.1, State.isArrayOf_alike al K1.2.1, K1.2.2, by rcases hcod with ⟨-, q, -⟩ | ⟨-, q, -⟩ <;> omega⟩, hcod, fun j hj => by
    have e : cs.getD j 0 = cs[j] := by simp [List.getD_eq_getElem?_getD, hj]
    show ¬ cs.getD j 0 < 0 ∧ ¬ 65535 < cs.getD j 0
    rw [e]; exact hb _ (List.getElem_mem _)⟩
theorem same_list (cs ds : List Int32) : SameT cs.length (fun j => cs.getD j 0) ds.length (fun j => ds.getD j 0) ↔ cs = ds := by
  constructor
  · rintro ⟨e, q⟩
    refine List.ext_getElem e fun j h1 h2 => ?_
    have := q j h1
    simpa [List.getD_eq_getElem?_getD, h1, h2] using this
  · rintro rfl
    exact ⟨rfl, fun _ _ => rfl⟩
/-- **equals(Object) OF TWO SUCH STRINGS**: 1 just where the chars are the same -/
theorem eqW {p : Program} {l : Launch} {e : Env} {R : Room} {s : State} {args : Array Value} {below : List Frame} {len W : Nat} {Z : State} {a0 : Array Value} {h : Heap} (hZ : Z.Warmed39 s.vm) (hw : ∀ d ∈ wordsEq, d.before a0 Z = true) {kI : Nat} (wi : (Jvm.Cond.instantiable ST kI).before a0 Z = true)
    {x t : Addr} {kb : ClassId} {cs : List Int32} {cd N2 : Int32} {vs : List Value} (E : RoadKit.Exa Z h x ST) (V : RoadKit.Fld Z h x ST "value" "[B" (.ref t)) (C : RoadKit.Fld Z h x ST "coder" "B" (.int cd)) (K : RoadKit.Arv Z h t kb .byte N2 vs (.int 0)) (hc : CodA cs cd N2 vs) (hb : ∀ c ∈ cs, ¬ c < 0 ∧ ¬ (65535 : Int32) < c) (l2 : cs.length ≤ 4000)
    {y t' : Addr} {kb' : ClassId} {ds : List Int32} {cd' N2' : Int32} {vs' : List Value} (E' : RoadKit.Exa Z h y ST) (V' : RoadKit.Fld Z h y ST "value" "[B" (.ref t')) (C' : RoadKit.Fld Z h y ST "coder" "B" (.int cd')) (K' : RoadKit.Arv Z h t' kb' .byte N2' vs' (.int 0)) (hc' : CodA ds cd' N2' vs') (hb' : ∀ c ∈ ds, ¬ c < 0 ∧ ¬ (65535 : Int32) < c) (l2' : ds.length ≤ 4000)
    {z : Int32} (S : RoadKit.Sta Z h ST "COMPACT_STRINGS" "Z" (.int z)) (hz : ¬ z = 0) (hfr : 2 ≤ R.frames) (hlo : W + 28 ≤ R.locals) :
    Back l R p e below s args (⟨"java/lang/String", "equals", "(Ljava/lang/Object;)Z"⟩ : MethodName) len W (fun P a => a = #[.ref x, .ref y] ∧ P.U.heap = h ∧ P.cells + 0 ≤ R.cells ∧ P.slots + 0 ≤ R.slots)
      (fun P _ v B => ∃ L, (((v = some (.int 1) ∧ cs = ds) ∨ (v = some (.int 0) ∧ ¬ cs = ds)) ∧ L = [] ∧ B.U.heap = h) ∧ B.locs = P.locs ++ L ∧ B.cells = P.cells + 0 ∧ B.slots = P.slots + 0) := by
  intro m meth c P g ig mk a X hg hsize hdg hW hn hp'
  obtain ⟨rfl, rfl, r1, r2⟩ := hp'
  have al : Z.vm.Alike P.U.vm := hZ.alike.trans X.warmed.alike
  obtain ⟨A, hx⟩ := txt_of wi al E V C K hc hb l2
  obtain ⟨A', hy⟩ := txt_of wi al E' V' C' K' hc' hb' l2'
  obtain ⟨v, B, X', ⟨⟨w, hv, hh, hq⟩, hl, hk, hs⟩, st⟩ := SEq.pays x t A cd cs.length (fun j => cs.getD j 0) y t' A' cd' ds.length (fun j => ds.getD j 0) z (tabEq_of (movedEq hZ hw)) hfr hlo m meth c P g ig mk _ X hg hsize hdg hW hn ⟨r1, r2, rfl, hx, hy, sta_is al S, hz⟩
  refine ⟨v, B, X', ⟨[], ⟨?_, rfl, hh⟩, hl, hk, hs⟩, st⟩
  rcases hq with ⟨rfl, q⟩ | ⟨rfl, q⟩
  · exact Or.inl ⟨hv, (same_list cs ds).mp q⟩
  · exact Or.inr ⟨hv, fun e => q ((same_list cs ds).mpr e)⟩
end StrChars.Road
namespace StrChars.Road
open Jvm Sem ClassFile Op Lib Jvm.Stand Jvm.Free Jvm.Free.XT
open Jvm.Lib.Cold (StaticIs)
/-- what backV says of its String, as the contracts of this text ask it: cs's low bytes, coder 0 -/
theorem codOf {cs : List Int32} {n : Nat} (hn : cs.length = n) (hb : ∀ c ∈ cs, ¬ 255 < c) : CodA cs 0 (Int32.ofNat n) ((cs.map lo8).map Value.int) := Or.inl ⟨rfl, by rw [hn], by simp [List.map_map, Function.comp_def], hb⟩
end StrChars.Road
end Jvm.Pilot.@@N@@
namespace Jvm.Pilot.@@N@@
open Jvm Jvm.ClassFile Sem Op Lib Jvm.Free Jvm.Stand Jvm.LawKit Jvm.RoadKit Bundle Jvm.Pilot.@@N@@.Jvm.D
def bI (P : Prop) [Decidable P] : Int32 := if P then 1 else 0
theorem bI_eq {P Q : Prop} [Decidable P] [Decidable Q] : bI P = bI Q ↔ (P ↔ Q) := by unfold bI; by_cases h : P <;> by_cases g : Q <;> simp [h, g]
theorem bI_eq1 {P : Prop} [Decidable P] : bI P = 1 ↔ P := by unfold bI; by_cases h : P <;> simp [h]
theorem bI_1eq {P : Prop} [Decidable P] : 1 = bI P ↔ P := by unfold bI; by_cases h : P <;> simp [h]
theorem bI_eq0 {P : Prop} [Decidable P] : bI P = 0 ↔ (P ↔ False) := by unfold bI; by_cases h : P <;> simp [h]
theorem bI_0eq {P : Prop} [Decidable P] : 0 = bI P ↔ (False ↔ P) := by unfold bI; by_cases h : P <;> simp [h]
theorem bI_t {P : Prop} [Decidable P] (h : P) : bI P = 1 := if_pos h
theorem bI_f {P : Prop} [Decidable P] (h : ¬ P) : bI P = 0 := if_neg h
theorem bI_iff {P Q : Prop} [Decidable P] [Decidable Q] (h : P ↔ Q) : bI P = bI Q := bI_eq.mpr h
theorem imp_iff_h {P Q : Prop} (h : P) : (P → Q) ↔ Q := ⟨fun f => f h, fun q _ => q⟩
theorem sel_t {P A B : Prop} (h : P) : ((P ∧ A) ∨ (¬ P ∧ B)) ↔ A := ⟨fun q => q.elim (fun z => z.2) (fun z => absurd h z.1), fun a => Or.inl ⟨h, a⟩⟩
theorem sel_f {P A B : Prop} (h : ¬ P) : ((P ∧ A) ∨ (¬ P ∧ B)) ↔ B := ⟨fun q => q.elim (fun z => absurd z.1 h) (fun z => z.2), fun b => Or.inr ⟨h, b⟩⟩
theorem bB_eq_t {P : Prop} [Decidable P] (h : ¬ P) : ifCond.holds .eq (bI P) = true := by rw [bI_f h]; rfl
theorem bB_eq_f {P : Prop} [Decidable P] (h : P) : ifCond.holds .eq (bI P) = false := by rw [bI_t h]; rfl
theorem bB_ne_t {P : Prop} [Decidable P] (h : P) : ifCond.holds .ne (bI P) = true := by rw [bI_t h]; rfl
theorem bB_ne_f {P : Prop} [Decidable P] (h : ¬ P) : ifCond.holds .ne (bI P) = false := by rw [bI_f h]; rfl
theorem bI_nar {P : Prop} [Decidable P] : nar .boolean (bI P) = bI P := by by_cases h : P <;> simp only [bI, h, if_true, if_false] <;> rfl
theorem bI_ret {P : Prop} [Decidable P] : (some (.int (nar .boolean (bI P))) : Option Value) = some (.int (bI P)) := by rw [bI_nar]
theorem bI_one {P : Prop} [Decidable P] (h : P) : (some (.int (nar .boolean (bI P))) : Option Value) = some (.int 1) := by rw [bI_nar, bI_t h]
theorem own_ite_ref {P : Prop} [Decidable P] {x y : Value} (h : x.isRef = true) (g : y.isRef = true) : (if P then x else y).isRef = true := by by_cases q : P <;> simp [q, h, g]
theorem own_fits_ref {t : FieldType} {x : Value} (ht : t.isReference = true) (h : x.isRef = true) : fits t x = true := by cases t <;> first | (cases ht; done) | (cases x <;> simp_all [fits, Value.isRef])
theorem own_eqI {args : Array Value} {s : State} {t : Term} {k : Int32} (h : (Cond.eq t (.int k)).value args s none s [] = some true) : t.eval args s none [] s = some (.int k) := by
  simp only [Cond.value, Term.eval] at h
  cases ht : t.eval args s none [] s with
  | none => simp [ht] at h
  | some v => cases v <;> simp [ht] at h ⊢; exact h
theorem own_eqR {args : Array Value} {s : State} {t u : Term} {v : Value} (hu : u.eval args s none [] s = some v) (hv : v.isRef = true) (h : (Cond.eq t u).value args s none s [] = some true) : t.eval args s none [] s = some v := by
  cases ht : t.eval args s none [] s with
  | none => simp [Cond.value, ht, hu] at h
  | some x =>
    rcases ref_cases hv with rfl | ⟨a, rfl⟩ <;> cases x <;> simp [Cond.value, ht, hu] at h ⊢ <;> exact h
theorem own_len {args : Array Value} {s : State} {t : Term} {a : Addr} {c : Cell} {ty : FieldType} {k : Int32} (ev : t.eval args s none [] s = some (.ref a)) (A : Arr s s.heap a c ty) (h : (Term.length t).eval args s none [] s = some (.int k)) : c.slots.size < 2 ^ 31 ∧ c.slots.size.toInt32 = k := by
  have ha := A.fin (Vm.Alike.refl _)
  by_cases q : c.slots.size < 2 ^ 31
  · rw [len_f ev ha q] at h; exact ⟨q, by injection h with h; injection h⟩
  · simp [Term.eval, ev, ha, q] at h


theorem own_up {cs : List Int32} (h : ∀ c ∈ cs, ¬ c < 0 ∧ ¬ (255 : Int32) < c) : ∀ c ∈ cs, ¬ c < 0 ∧ ¬ (65535 : Int32) < c := fun c hc => ⟨(h c hc).1, fun q => (h c hc).2 (by rw [Int32.lt_iff_toInt_lt] at q ⊢; have e1 : (65535 : Int32).toInt = 65535 := rfl; have e2 : (255 : Int32).toInt = 255 := rfl; omega)⟩
theorem own_p0 : ∀ c ∈ ([] : List Int32), ¬ c < 0 ∧ ¬ (255 : Int32) < c := fun _ h => nomatch h
theorem own_pS {c : Int32} {cs : List Int32} (h : ¬ c < 0 ∧ ¬ (255 : Int32) < c) (g : ∀ c ∈ cs, ¬ c < 0 ∧ ¬ (255 : Int32) < c) : ∀ x ∈ c :: cs, ¬ x < 0 ∧ ¬ (255 : Int32) < x := fun x q => by
  rcases List.mem_cons.mp q with rfl | q
  · exact h
  · exact g x q
theorem own_eqB {v : Option Value} {cs ds : List Int32} {P Q : Prop} (h : (((v = some (.int 1) ∧ cs = ds) ∨ (v = some (.int 0) ∧ ¬ cs = ds)) ∧ P ∧ Q)) : v = some (.int (bI (cs = ds))) ∧ P ∧ Q := by
  obtain ⟨⟨h1, h2⟩ | ⟨h1, h2⟩, h3, h4⟩ := h
  · exact ⟨by rw [h1, bI_t h2], h3, h4⟩
  · exact ⟨by rw [h1, bI_f h2], h3, h4⟩
theorem own_cod {cs : List Int32} {n : Nat} {N : Int32} (hn : cs.length = n) (hN : N = Int32.ofNat n) (h : ∀ c ∈ cs, ¬ c < 0 ∧ ¬ (255 : Int32) < c) : StrChars.Road.CodA cs 0 N ((cs.map (fun c => c.toInt8.toInt32)).map Value.int) := by
  subst hN
  exact StrChars.Road.codOf hn (fun c hc => (h c hc).2)
theorem own_and255 (x : Int32) : ¬ (nar .char ((x &&& (255 : Int32)).toUInt32.toUInt16.toUInt32.toInt32)) < 0 ∧ ¬ (255 : Int32) < (nar .char ((x &&& (255 : Int32)).toUInt32.toUInt16.toUInt32.toInt32)) := by
  have t : ∀ k : Fin 256, ¬ nar .char ((Int32.ofNat k.val).toUInt32.toUInt16.toUInt32.toInt32) < 0 ∧ ¬ (255 : Int32) < nar .char ((Int32.ofNat k.val).toUInt32.toUInt16.toUInt32.toInt32) := by decide +kernel
  have h : (x &&& 255).toBitVec.toNat < 256 := by
    simp only [Int32.toBitVec_and, BitVec.toNat_and]
    exact Nat.lt_succ_of_le Nat.and_le_right
  have e : (x &&& 255) = Int32.ofNat (x &&& 255).toBitVec.toNat := by
    apply Int32.toBitVec_inj.mp
    show _ = BitVec.ofNat 32 _
    rw [BitVec.ofNat_toNat]; simp
  rw [e]
  exact t ⟨_, h⟩
theorem own_neI {args : Array Value} {s : State} {t : Term} {k x : Int32} (ev : t.eval args s none [] s = some (.int x)) (h : (Jvm.Cond.not (.eq t (.int k))).value args s none s [] = some true) : ¬ x = k := by
  have q := not_v h
  intro e
  subst e
  rw [eq_i ev (Term.int_eval x) rfl] at q
  cases q
theorem own_i2c {ch : Int32} (h : ¬ ch < 0 ∧ ch < (256 : Int32)) : ch.toUInt32.toUInt16.toUInt32.toInt32 = ch := by
  have r := c_i2c ch
  have z0 : (0 : Int32).toInt = 0 := rfl
  have z1 : (256 : Int32).toInt = 256 := rfl
  rw [Int32.lt_iff_toInt_lt, Int32.lt_iff_toInt_lt, z0, z1] at h
  refine Int32.toInt_inj.mp ?_
  omega
theorem own_256 {c : Int32} (h : ¬ c < 0 ∧ ¬ (255 : Int32) < c) : ¬ c < 0 ∧ c < (256 : Int32) := by
  have z1 : (256 : Int32).toInt = 256 := rfl
  have z2 : (255 : Int32).toInt = 255 := rfl
  refine ⟨h.1, ?_⟩
  have g := h.2
  rw [Int32.lt_iff_toInt_lt, z2] at g
  rw [Int32.lt_iff_toInt_lt, z1]; omega
theorem own_char {c : Int32} (h : ¬ c < 0 ∧ ¬ (255 : Int32) < c) : nar .char ((c.toInt8.toInt32 &&& (255 : Int32)).toUInt32.toUInt16.toUInt32.toInt32) = c := by
  have b := c_i2b c
  have m := c_mask c.toInt8.toInt32 (255 : Int32) 8 (by decide) (by decide)
  have pw : ((2 ^ 8 : Nat) : Int) = 256 := rfl
  rw [pw] at m
  have z0 : (0 : Int32).toInt = 0 := rfl
  have z2 : (255 : Int32).toInt = 255 := rfl
  rw [Int32.lt_iff_toInt_lt, Int32.lt_iff_toInt_lt, z0, z2] at h
  have e : (c.toInt8.toInt32 &&& (255 : Int32)) = c := Int32.toInt_inj.mp (by rw [m]; omega)
  rw [e]
  have k : ¬ c < 0 ∧ c < (256 : Int32) := by
    have z1 : (256 : Int32).toInt = 256 := rfl
    rw [Int32.lt_iff_toInt_lt, Int32.lt_iff_toInt_lt, z0, z1]; omega
  rw [own_i2c k]
  exact own_i2c k
theorem own_bI2 {P : Prop} [Decidable P] : ¬ (bI P = (2 : Int32)) := by
  by_cases h : P <;> simp only [bI, h, if_true, if_false] <;> decide
theorem own_max (q : Int64) : ¬ ((if (1 : Int64) < q then q else (1 : Int64)) < (1 : Int64)) := by
  by_cases h : (1 : Int64) < q
  · rw [if_pos h]; rw [Int64.lt_iff_toInt_lt] at h ⊢; omega
  · rw [if_neg h]; decide
theorem own_tab_keep {Z : State} {h h' : Heap} {a : Addr} {c : Cell} {ty : FieldType} {n : Int32} (K : Keep h h' []) (T : Tab Z h a c ty n) : Tab Z h' a c ty n := ⟨⟨K.2.1 a c T.1.1 nin0, T.1.2⟩, T.2⟩
def own_EL : List (String × Nat) := [("com/example/leasehold/leasehold/LeaseRequestHasTermsOfPinLaw", 30), ("com/example/leasehold/leasehold/LeaseRequestHasTermsOfPinLaw", 35)]
theorem own_EW {Z : State} {a0 : Array Value} (hw : ∀ d ∈ tables_1, d.before a0 Z = true) : EW Z a0 own_EL := EW.cons (text := "p") (hw _ (List.mem_of_getElem? (i := 37) rfl)) (by decide +kernel) (EW.cons (text := "q") (hw _ (List.mem_of_getElem? (i := 117) rfl)) (by decide +kernel) EW.nil)
theorem own_bb (x : Int32) : nar .byte x.toInt8.toInt32 = x.toInt8.toInt32 := by
  show x.toInt8.toInt32.toInt8.toInt32 = x.toInt8.toInt32
  rw [Int8.toInt8_toInt32]
theorem own_vb {Z : State} {h : Heap} {t : Addr} {k : ClassId} {x : Int32} (A : Arv Z h t k .byte (1 : Int32) [.int (nar .byte x.toInt8.toInt32)] (.int 0)) : Arv Z h t k .byte (1 : Int32) ((([x] : List Int32).map (fun c => c.toInt8.toInt32)).map Value.int) (.int 0) := by
  rw [own_bb] at A; exact A
def own_sv (v : Int32) : List Int32 := if (v &&& (128 : Int32)) = (0 : Int32) then [(v &&& (127 : Int32)).toUInt32.toUInt16.toUInt32.toInt32] else [nar .char ((v &&& (127 : Int32)).toUInt32.toUInt16.toUInt32.toInt32), nar .char (97 : Int32)]
theorem own_x127 (v : Int32) : ¬ (v &&& (127 : Int32)).toUInt32.toUInt16.toUInt32.toInt32 < 0 ∧ ¬ (255 : Int32) < (v &&& (127 : Int32)).toUInt32.toUInt16.toUInt32.toInt32 := by
  have m := c_mask v (127 : Int32) 7 (by decide) (by decide)
  have pw : ((2 ^ 7 : Nat) : Int) = 128 := rfl
  rw [pw] at m
  generalize (v &&& (127 : Int32)) = z at *
  have c1 := c_i2c z
  generalize z.toUInt32.toUInt16.toUInt32.toInt32 = y1 at *
  have z0 : (0 : Int32).toInt = 0 := rfl
  have z2 : (255 : Int32).toInt = 255 := rfl
  rw [Int32.lt_iff_toInt_lt, Int32.lt_iff_toInt_lt, z0, z2]
  omega
theorem own_c127 (v : Int32) : ¬ nar .char ((v &&& (127 : Int32)).toUInt32.toUInt16.toUInt32.toInt32) < 0 ∧ ¬ (255 : Int32) < nar .char ((v &&& (127 : Int32)).toUInt32.toUInt16.toUInt32.toInt32) := by
  have h := own_x127 v
  have e : nar .char ((v &&& (127 : Int32)).toUInt32.toUInt16.toUInt32.toInt32) = (v &&& (127 : Int32)).toUInt32.toUInt16.toUInt32.toInt32 := own_i2c (own_256 h)
  rw [e]; exact h
theorem own_sv_p {v : Int32} : ∀ c ∈ own_sv v, ¬ c < 0 ∧ ¬ (255 : Int32) < c := by
  unfold own_sv
  by_cases q : (v &&& (128 : Int32)) = (0 : Int32)
  · rw [if_pos q]; exact own_pS (own_x127 v) own_p0
  · rw [if_neg q]; exact own_pS (own_c127 v) (own_pS (by decide) own_p0)
theorem own_sv_len {v : Int32} : (own_sv v).length ≤ 4000 := by
  unfold own_sv
  by_cases q : (v &&& (128 : Int32)) = (0 : Int32)
  · rw [if_pos q]; exact Nat.le_of_ble_eq_true rfl
  · rw [if_neg q]; exact Nat.le_of_ble_eq_true rfl
def own_back : List Int32 → Int32
  | [x] => x
  | x :: _ => x + 128
  | [] => 0
theorem own_tn (x : Int32) : (x &&& 255).toBitVec.toNat = x.toBitVec.toNat % 256 := by
  show (x.toBitVec &&& 255#32).toNat = _
  rw [BitVec.toNat_and]
  exact Nat.and_two_pow_sub_one_eq_mod x.toBitVec.toNat 8
theorem own_sv_back (x : Int32) : own_back (own_sv (x &&& (255 : Int32))) = (x &&& (255 : Int32)) := by
  have t : ∀ k : Fin 256, own_back (own_sv (Int32.ofNat k.val)) = Int32.ofNat k.val := by decide +kernel
  have h : (x &&& 255).toBitVec.toNat < 256 := by rw [own_tn]; exact Nat.mod_lt _ (by decide)
  have e : (x &&& 255) = Int32.ofNat (x &&& 255).toBitVec.toNat := by
    apply Int32.toBitVec_inj.mp
    show _ = BitVec.ofNat 32 _
    rw [BitVec.ofNat_toNat]; simp
  rw [e]
  exact t ⟨_, h⟩
theorem own_sv_iff (x y : Int32) : own_sv (x &&& (255 : Int32)) = own_sv (y &&& (255 : Int32)) ↔ x.toBitVec.toNat % 256 = y.toBitVec.toNat % 256 := by
  rw [← own_tn, ← own_tn]
  constructor
  · intro h
    have g := congrArg own_back h
    rw [own_sv_back, own_sv_back] at g
    rw [g]
  · intro h
    have e : (x &&& 255) = (y &&& 255) := Int32.toBitVec_inj.mp (BitVec.eq_of_toNat_eq h)
    rw [e]
theorem own_sh (x : Int32) (k : Int32) (n : Nat) (h : (k &&& 31).toUInt32.toNat % 32 = n) : ((x.toUInt32 >>> (k &&& 31).toUInt32).toInt32).toBitVec.toNat = x.toBitVec.toNat / 2 ^ n := by
  show (x.toUInt32 >>> (k &&& 31).toUInt32).toNat = _
  rw [UInt32.toNat_shiftRight, h, Nat.shiftRight_eq_div_pow]
  rfl
theorem own_fin (p1 p2 : Int32) {p3 p4 p5 p6 : Int64} : (((own_sv (p1 &&& (255 : Int32))) = (own_sv (p2 &&& (255 : Int32)))) ∧ (((own_sv (((p1.toUInt32 >>> ((8 : Int32) &&& 31).toUInt32).toInt32) &&& (255 : Int32))) = (own_sv (((p2.toUInt32 >>> ((8 : Int32) &&& 31).toUInt32).toInt32) &&& (255 : Int32)))) ∧ (((own_sv (((p1.toUInt32 >>> ((16 : Int32) &&& 31).toUInt32).toInt32) &&& (255 : Int32))) = (own_sv (((p2.toUInt32 >>> ((16 : Int32) &&& 31).toUInt32).toInt32) &&& (255 : Int32)))) ∧ (((own_sv (((p1.toUInt32 >>> ((24 : Int32) &&& 31).toUInt32).toInt32) &&& (255 : Int32))) = (own_sv (((p2.toUInt32 >>> ((24 : Int32) &&& 31).toUInt32).toInt32) &&& (255 : Int32)))) ∧ ((p3 = p4) ∧ ((if (1 : Int64) < p5 then p5 else (1 : Int64)) = (if (1 : Int64) < p6 then p6 else (1 : Int64)))))))) ↔ ((p1 = p2) ∧ ((p3 = p4) ∧ ((if (1 : Int64) < p5 then p5 else (1 : Int64)) = (if (1 : Int64) < p6 then p6 else (1 : Int64))))) := by
  rw [own_sv_iff, own_sv_iff, own_sv_iff, own_sv_iff, own_sh p1 8 8 (by decide), own_sh p2 8 8 (by decide), own_sh p1 16 16 (by decide), own_sh p2 16 16 (by decide), own_sh p1 24 24 (by decide), own_sh p2 24 24 (by decide)]
  constructor
  · rintro ⟨h0, h1, h2, h3, h4, h5⟩
    refine ⟨?_, h4, h5⟩
    have b1 : p1.toBitVec.toNat < 2 ^ 32 := p1.toBitVec.isLt
    have b2 : p2.toBitVec.toNat < 2 ^ 32 := p2.toBitVec.isLt
    refine Int32.toBitVec_inj.mp (BitVec.eq_of_toNat_eq ?_)
    omega
  · rintro ⟨rfl, h4, h5⟩
    exact ⟨rfl, rfl, rfl, rfl, h4, h5⟩

theorem d4_0 : decode jdk_43_method_3_code 0 = .ok (.iload_n 0, 1) := by decide +kernel
theorem d4_1 : decode jdk_43_method_3_code 1 = .ok (.sipush 255, 3) := by decide +kernel
theorem d4_4 : decode jdk_43_method_3_code 4 = .ok (.if_icmp .gt 7, 3) := by decide +kernel
theorem d4_7 : decode jdk_43_method_3_code 7 = .ok (.iconst 1, 1) := by decide +kernel
theorem d4_8 : decode jdk_43_method_3_code 8 = .ok (.goto 4, 3) := by decide +kernel
theorem d4_12 : decode jdk_43_method_3_code 12 = .ok (.ireturn, 1) := by decide +kernel
theorem pn_4 : plainName "java/lang/StringLatin1" = true := by first | (simp [plainName, overriddenIn]; done) | decide +kernel
theorem ef_rmCE (m : MethodId) (x0 : Int32) : entryFrame m #[(.int x0)] 1 = mkF m 0 #[.val (.int x0)] [] := by first | (simp [entryFrame, mkF, argsToLocals, Value.category]; done) | rfl
def QCE (Z : State) (p1 : Int32) (h0 : Heap) (n0 : Nat) (v : Option Value) (h : Heap) (L : List Loc) : Prop := v = some (.int (1 : Int32)) ∧ Fr n0 L ∧ h = h0
set_option maxRecDepth 65536 in
set_option maxHeartbeats 40000000 in
theorem rmCE (l : Launch) (Z : State) (a0 : Array Value) (hw : ∀ d ∈ tables_1, d.before a0 Z = true) (ws : List Jvm.Cond) (p1 : Int32) (h0 : Heap) (n0 : Nat) (Z0 : n0 ≤ h0.size) (hp : ¬ p1 < 0 ∧ ¬ (255 : Int32) < p1) :
    MetFree l (⟨"java/lang/StringLatin1", "canEncode", "(C)Z"⟩ : MethodName) (head1 (Jvm.Cond.code (⟨"java/lang/StringLatin1", "canEncode", "(C)Z"⟩ : MethodName) jdk_43_method_3_code 1 (some .boolean) :: ws) ({ frames := 0, cells := 0, slots := 0, locals := 0 } : Room)) (fun ar UU => ar = #[(.int p1)] ∧ Z.Warmed39 UU.vm ∧ UU.heap = h0) (fun _ _ _ _ _ => True) (fun _ UU oo UU' => ∃ vv LL, oo = .returned vv ∧ QCE Z p1 h0 n0 vv UU'.heap LL ∧ FrameEnd UU oo UU' LL ({ frames := 0, cells := 0, slots := 0, locals := 0 } : Room).cells ({ frames := 0, cells := 0, slots := 0, locals := 0 } : Room).slots) := by
  refine MetFree.of_bodySF (plainFor_of_name pn_4) hisR ?_
  intro p e s m args below meth c s₁ Bd hml0 hP hK
  obtain ⟨rfl, hZ, hh⟩ := hP
  have hx := Bd.exec
  have hby := Bd.bytes
  have hml : c.maxLocals = 1 := hml0
  have hown : s.vm.findClass "java/lang/StringLatin1" = some m.cls := findClass_of_methodNamed Bd.named
  have hnm := (name_of_methodNamed Bd.named Bd.method).1
  have X0 : Stand p l e ({ frames := 0, cells := 0, slots := 0, locals := 0 } : Room) s m #[(.int p1)] below meth c s₁ [] 0 0 := Stand.of_body Bd
  have e0 : s₁.heap = h0 := by rw [← hh, Bd.state]; rfl
  have N0 := Fr.nil n0
  have KC0 : Keep h0 h0 [] := Keep.refl h0 []
  have pre0 : ∀ tgt, Steps p.tables e below (s₁.setTop (mkF m 0 #[.val (.int p1)] [])) tgt → Steps p.tables e below (s₁.setTop (entryFrame m #[(.int p1)] 1)) tgt := fun tgt kk => castTop (ef_rmCE m (p1)) kk
  have hk1 : ¬ ((255 : Int32) < p1) := hp.2
  obtain ⟨fs, hr, hrun, hended, hW, hsame⟩ := X0.leave (v := some (.int (1 : Int32))) (fun h => by rw [Bd.returns] at h; cases h)
  refine ⟨_, _, pre0 _ ?_, hrun, hended, _, _, rfl, ?_, ⟨_, rfl⟩, hW, hsame.mono (by decide) (by decide)⟩
  · skip
    refine XS.iloadN X0.here hx rfl (hb hby d4_0) rfl ?_
    show Steps p.tables e below (s₁.setTop (mkF m 1 #[.val (.int p1)] [(.int p1)])) _
    refine XS.sipush X0.here hx rfl (hb hby d4_1) ?_
    show Steps p.tables e below (s₁.setTop (mkF m 4 #[.val (.int p1)] [(.int (255 : Int32)), (.int p1)])) _
    refine XS.icmpNo X0.here hx rfl (hb hby d4_4) rfl (XT.ii_gt_f hk1) ?_
    show Steps p.tables e below (s₁.setTop (mkF m 7 #[.val (.int p1)] [])) _
    refine XS.iconst X0.here hx rfl (hb hby d4_7) ?_
    show Steps p.tables e below (s₁.setTop (mkF m 8 #[.val (.int p1)] [(.int (1 : Int32))])) _
    refine XS.goto X0.here hx rfl (pc0 := 8) (pc' := 12) rfl (hb hby d4_8) (by decide) (by decide) ?_
    show Steps p.tables e below (s₁.setTop (mkF m 12 #[.val (.int p1)] [(.int (1 : Int32))])) _
    exact retN X0 hx (t := .boolean) Bd.returns (by simp) (hb hby d4_12) hr
  · show QCE Z p1 h0 n0 _ s₁.heap _
    rw [e0]
    exact ⟨rfl, N0, rfl⟩
theorem d5_0 : decode jdk_43_method_46_code 0 = .ok (.iconst 1, 1) := by decide +kernel
theorem d5_1 : decode jdk_43_method_46_code 1 = .ok (.newarray .byte, 2) := by decide +kernel
theorem d5_3 : decode jdk_43_method_46_code 3 = .ok (.dup, 1) := by decide +kernel
theorem d5_4 : decode jdk_43_method_46_code 4 = .ok (.iconst 0, 1) := by decide +kernel
theorem d5_5 : decode jdk_43_method_46_code 5 = .ok (.iload_n 0, 1) := by decide +kernel
theorem d5_6 : decode jdk_43_method_46_code 6 = .ok (.i2b, 1) := by decide +kernel
theorem d5_7 : decode jdk_43_method_46_code 7 = .ok (.bastore, 1) := by decide +kernel
theorem d5_8 : decode jdk_43_method_46_code 8 = .ok (.areturn, 1) := by decide +kernel
theorem pn_5 : plainName "java/lang/StringLatin1" = true := by first | (simp [plainName, overriddenIn]; done) | decide +kernel
theorem ef_rmTB (m : MethodId) (x0 : Int32) : entryFrame m #[(.int x0)] 1 = mkF m 0 #[.val (.int x0)] [] := by first | (simp [entryFrame, mkF, argsToLocals, Value.category]; done) | rfl
def QTB (Z : State) (p1 : Int32) (h0 : Heap) (n0 : Nat) (v : Option Value) (h : Heap) (L : List Loc) : Prop := ∃ (r : Addr) (k : ClassId), v = some (.ref r) ∧ Fr n0 L ∧ Keep h0 h [] ∧ n0 ≤ r ∧ h0.size ≤ r ∧ Arv Z h r k .byte (1 : Int32) [(.int (nar .byte p1.toInt8.toInt32))] (.int (0 : Int32))
set_option maxRecDepth 65536 in
set_option maxHeartbeats 40000000 in
theorem rmTB (l : Launch) (Z : State) (a0 : Array Value) (hw : ∀ d ∈ tables_1, d.before a0 Z = true) (ws : List Jvm.Cond) (p1 : Int32) (h0 : Heap) (n0 : Nat) (Z0 : n0 ≤ h0.size) :
    MetFree l (⟨"java/lang/StringLatin1", "toBytes", "(C)[B"⟩ : MethodName) (head1 (Jvm.Cond.code (⟨"java/lang/StringLatin1", "toBytes", "(C)[B"⟩ : MethodName) jdk_43_method_46_code 1 (some (.array .byte)) :: ws) ({ frames := 0, cells := 1, slots := 1, locals := 0 } : Room)) (fun ar UU => ar = #[(.int p1)] ∧ Z.Warmed39 UU.vm ∧ UU.heap = h0) (fun _ _ _ _ _ => True) (fun _ UU oo UU' => ∃ vv LL, oo = .returned vv ∧ QTB Z p1 h0 n0 vv UU'.heap LL ∧ FrameEnd UU oo UU' LL ({ frames := 0, cells := 1, slots := 1, locals := 0 } : Room).cells ({ frames := 0, cells := 1, slots := 1, locals := 0 } : Room).slots) := by
  refine MetFree.of_bodySF (plainFor_of_name pn_5) hisR ?_
  intro p e s m args below meth c s₁ Bd hml0 hP hK
  obtain ⟨rfl, hZ, hh⟩ := hP
  have hx := Bd.exec
  have hby := Bd.bytes
  have hml : c.maxLocals = 1 := hml0
  have hown : s.vm.findClass "java/lang/StringLatin1" = some m.cls := findClass_of_methodNamed Bd.named
  have hnm := (name_of_methodNamed Bd.named Bd.method).1
  have X0 : Stand p l e ({ frames := 0, cells := 1, slots := 1, locals := 0 } : Room) s m #[(.int p1)] below meth c s₁ [] 0 0 := Stand.of_body Bd
  have e0 : s₁.heap = h0 := by rw [← hh, Bd.state]; rfl
  have N0 := Fr.nil n0
  have KC0 : Keep h0 h0 [] := Keep.refl h0 []
  have pre0 : ∀ tgt, Steps p.tables e below (s₁.setTop (mkF m 0 #[.val (.int p1)] [])) tgt → Steps p.tables e below (s₁.setTop (entryFrame m #[(.int p1)] 1)) tgt := fun tgt kk => castTop (ef_rmTB m (p1)) kk
  have pre1 : ∀ tgt, Steps p.tables e below (s₁.setTop (mkF m 1 #[.val (.int p1)] [(.int (1 : Int32))])) tgt → Steps p.tables e below (s₁.setTop (entryFrame m #[(.int p1)] 1)) tgt := by
    intro tgt kk
    refine pre0 tgt ?_
    refine XS.iconst X0.here hx rfl (hb hby d5_0) ?_
    show Steps p.tables e below (s₁.setTop (mkF m 1 #[.val (.int p1)] [(.int (1 : Int32))])) _
    exact kk
  obtain ⟨T2, h2, k2, X2, e2, E2, A2, st2⟩ := newP X0 hx hZ (hw _ (List.mem_of_getElem? (i := 22) rfl)) e0 (g := (mkF m 1 #[.val (.int p1)] [(.int (1 : Int32))])) rfl (hb hby d5_1) rfl (by decide) (cap := 1) (by decide) (by decide) (by decide) (by decide)
  obtain ⟨b2, g2⟩ : ∃ z, z = h0.size := ⟨_, rfl⟩
  rw [← g2] at A2 st2
  have gn3 : n0 ≤ b2 := Nat.le_trans Z0 (Nat.le_of_eq g2.symm)
  have sz3 : h0.size ≤ b2 := Nat.le_trans KC0.1 (Nat.le_of_eq g2.symm)
  have Zs4 : n0 ≤ h2.size := Nat.le_trans Z0 E2.1
  have KC4 : Keep h0 h2 [] := KC0.ext E2
  have V_b2 : Arv Z h2 b2 k2 .byte (1 : Int32) [(.int (0 : Int32))] (.int (0 : Int32)) := (Arv.new A2 (by decide)).pad (pad_rep [] (.int (0 : Int32)) 1)
  have pre5 : ∀ tgt, Steps p.tables e below (T2.setTop (mkF m 7 #[.val (.int p1)] [(.int p1.toInt8.toInt32), (.int (0 : Int32)), (.ref b2), (.ref b2)])) tgt → Steps p.tables e below (s₁.setTop (entryFrame m #[(.int p1)] 1)) tgt := by
    intro tgt kk
    refine pre1 tgt ?_
    refine st2 _ ?_
    show Steps p.tables e below (T2.setTop (mkF m 3 #[.val (.int p1)] [(.ref b2)])) _
    refine XS.dup X2.here hx rfl (hb hby d5_3) rfl rfl ?_
    show Steps p.tables e below (T2.setTop (mkF m 4 #[.val (.int p1)] [(.ref b2), (.ref b2)])) _
    refine XS.iconst X2.here hx rfl (hb hby d5_4) ?_
    show Steps p.tables e below (T2.setTop (mkF m 5 #[.val (.int p1)] [(.int (0 : Int32)), (.ref b2), (.ref b2)])) _
    refine XS.iloadN X2.here hx rfl (hb hby d5_5) rfl ?_
    show Steps p.tables e below (T2.setTop (mkF m 6 #[.val (.int p1)] [(.int p1), (.int (0 : Int32)), (.ref b2), (.ref b2)])) _
    refine XS.i2b X2.here hx rfl (hb hby d5_6) rfl ?_
    show Steps p.tables e below (T2.setTop (mkF m 7 #[.val (.int p1)] [(.int p1.toInt8.toInt32), (.int (0 : Int32)), (.ref b2), (.ref b2)])) _
    exact kk
  obtain ⟨cl6, Ar6, aq6, aS6, aN6, aH6, aG6⟩ := id V_b2
  have hin7 : ¬ ((0 : Int32) < 0 ∨ cl6.slots.size ≤ ((0 : Int32)).toNatClampNeg) := inb_of aS6 ⟨by decide, by decide⟩
  obtain ⟨T7, h7, X7, e7, W7, st7⟩ := stB X2 hx hZ e2 Ar6 (j := (0 : Int32)) hin7 (g := (mkF m 7 #[.val (.int p1)] [(.int p1.toInt8.toInt32), (.int (0 : Int32)), (.ref b2), (.ref b2)])) rfl rfl (hb hby d5_7)
  have N7 := Fr.snoc X7 N0 gn3
  have Vq7 : Arv Z h7 b2 k2 .byte (1 : Int32) [(.int (nar .byte p1.toInt8.toInt32))] (.int (0 : Int32)) := Arv.set Ar6 aq6 aS6 aN6 aH6 aG6 (fits_nar_byte _) W7 0 rfl (Nat.le_of_ble_eq_true rfl)
  have Zs8 : n0 ≤ h7.size := Nat.le_trans Zs4 (Keep.of_wr W7).1
  have KC8 : Keep h0 h7 [] := KC4.wr W7 (Or.inr sz3)
  have V_b2 := Vq7
  obtain ⟨fs, hr, hrun, hended, hW, hsame⟩ := X7.leave (v := some (.ref b2)) (fun h => by rw [Bd.returns] at h; cases h)
  refine ⟨_, _, pre5 _ ?_, hrun, hended, _, _, rfl, ?_, ⟨_, rfl⟩, hW, hsame.mono (by decide) (by decide)⟩
  · skip
    refine st7 _ ?_
    show Steps p.tables e below (T7.setTop (mkF m 8 #[.val (.int p1)] [(.ref b2)])) _
    exact retOut X7 hx Bd.returns rfl (Or.inr (Or.inr (Or.inr (Or.inr ⟨rfl, rfl, rfl⟩)))) (hb hby d5_8) hr
  · show QTB Z p1 h0 n0 _ T7.heap _
    rw [e7]
    exact ⟨b2, k2, rfl, N7, KC8, gn3, sz3, V_b2⟩
theorem d6_0 : decode jdk_42_method_151_code 0 = .ok (.aload_n 0, 1) := by decide +kernel
theorem d6_1 : decode jdk_42_method_151_code 1 = .ok (.invokespecial 1, 3) := by decide +kernel
theorem d6_4 : decode jdk_42_method_151_code 4 = .ok (.aload_n 0, 1) := by decide +kernel
theorem d6_5 : decode jdk_42_method_151_code 5 = .ok (.aload_n 1, 1) := by decide +kernel
theorem d6_6 : decode jdk_42_method_151_code 6 = .ok (.putfield 9, 3) := by decide +kernel
theorem d6_9 : decode jdk_42_method_151_code 9 = .ok (.aload_n 0, 1) := by decide +kernel
theorem d6_10 : decode jdk_42_method_151_code 10 = .ok (.iload_n 2, 1) := by decide +kernel
theorem d6_11 : decode jdk_42_method_151_code 11 = .ok (.putfield 15, 3) := by decide +kernel
theorem d6_14 : decode jdk_42_method_151_code 14 = .ok (.return_, 1) := by decide +kernel
theorem pn_6 : plainName "java/lang/String" = true := by first | (simp [plainName, overriddenIn]; done) | decide +kernel
theorem ef_rmSI (m : MethodId) (x0 : Addr) (x1 : Addr) (x2 : Int32) : entryFrame m #[(.ref x0), (.ref x1), (.int x2)] 3 = mkF m 0 #[.val (.ref x0), .val (.ref x1), .val (.int x2)] [] := by first | (simp [entryFrame, mkF, argsToLocals, Value.category]; done) | rfl
def QSI (Z : State) (a : Addr) (t : Addr) (h0 : Heap) (n0 : Nat) (v : Option Value) (h : Heap) (L : List Loc) : Prop := v = none ∧ Fr n0 L ∧ Keep h0 h [a] ∧ Fld Z h a "java/lang/String" "value" "[B" (.ref t) ∧ Fld Z h a "java/lang/String" "coder" "B" (.int (0 : Int32))
set_option maxRecDepth 65536 in
set_option maxHeartbeats 40000000 in
theorem rmSI (l : Launch) (Z : State) (a0 : Array Value) (hw : ∀ d ∈ tables_1, d.before a0 Z = true) (ws : List Jvm.Cond) (a : Addr) (t : Addr) (h0 : Heap) (n0 : Nat) (Z0 : n0 ≤ h0.size) (E_a : Exa Z h0 a "java/lang/String") (F_value : Fld Z h0 a "java/lang/String" "value" "[B" .null) (F_coder : Fld Z h0 a "java/lang/String" "coder" "B" (.int (0 : Int32))) (g_a : n0 ≤ a) :
    MetFree l (⟨"java/lang/String", "<init>", "([BB)V"⟩ : MethodName) (head1 (Jvm.Cond.code (⟨"java/lang/String", "<init>", "([BB)V"⟩ : MethodName) jdk_42_method_151_code 3 none :: ws) ({ frames := 1, cells := 0, slots := 0, locals := 12 } : Room)) (fun ar UU => ar = #[(.ref a), (.ref t), (.int (0 : Int32))] ∧ Z.Warmed39 UU.vm ∧ UU.heap = h0) (fun _ _ _ _ _ => True) (fun _ UU oo UU' => ∃ vv LL, oo = .returned vv ∧ QSI Z a t h0 n0 vv UU'.heap LL ∧ FrameEnd UU oo UU' LL ({ frames := 1, cells := 0, slots := 0, locals := 12 } : Room).cells ({ frames := 1, cells := 0, slots := 0, locals := 12 } : Room).slots) := by
  refine MetFree.of_bodySF (plainFor_of_name pn_6) hisR ?_
  intro p e s m args below meth c s₁ Bd hml0 hP hK
  obtain ⟨rfl, hZ, hh⟩ := hP
  have hx := Bd.exec
  have hby := Bd.bytes
  have hml : c.maxLocals = 3 := hml0
  have hown : s.vm.findClass "java/lang/String" = some m.cls := findClass_of_methodNamed Bd.named
  have hnm := (name_of_methodNamed Bd.named Bd.method).1
  have X0 : Stand p l e ({ frames := 1, cells := 0, slots := 0, locals := 12 } : Room) s m #[(.ref a), (.ref t), (.int (0 : Int32))] below meth c s₁ [] 0 0 := Stand.of_body Bd
  have e0 : s₁.heap = h0 := by rw [← hh, Bd.state]; rfl
  have N0 := Fr.nil n0
  have KC0 : Keep h0 h0 [a] := Keep.refl h0 [a]
  have pre0 : ∀ tgt, Steps p.tables e below (s₁.setTop (mkF m 0 #[.val (.ref a), .val (.ref t), .val (.int (0 : Int32))] [])) tgt → Steps p.tables e below (s₁.setTop (entryFrame m #[(.ref a), (.ref t), (.int (0 : Int32))] 3)) tgt := fun tgt kk => castTop (ef_rmSI m (a) (t) ((0 : Int32))) kk
  have pre1 : ∀ tgt, Steps p.tables e below (s₁.setTop (mkF m 1 #[.val (.ref a), .val (.ref t), .val (.int (0 : Int32))] [(.ref a)])) tgt → Steps p.tables e below (s₁.setTop (entryFrame m #[(.ref a), (.ref t), (.int (0 : Int32))] 3)) tgt := by
    intro tgt kk
    refine pre0 tgt ?_
    refine XS.aloadN X0.here hx rfl (hb hby d6_0) rfl rfl ?_
    show Steps p.tables e below (s₁.setTop (mkF m 1 #[.val (.ref a), .val (.ref t), .val (.int (0 : Int32))] [(.ref a)])) _
    exact kk
  obtain ⟨T2, X2, e2, st2⟩ := initO X0 hx hZ hown (hw _ (List.mem_of_getElem? (i := 27) rfl)) (hw _ (List.mem_of_getElem? (i := 28) rfl)) (hw _ (List.mem_of_getElem? (i := 29) rfl)) e0 (g := (mkF m 1 #[.val (.ref a), .val (.ref t), .val (.int (0 : Int32))] [(.ref a)])) rfl (by rw [hml]; rfl) rfl (hb hby d6_1) (by decide) (W := 0) (by show 2 * 0 + _ ≤ _; exact Nat.le_of_eq rfl) (by decide)
  have pre3 : ∀ tgt, Steps p.tables e below (T2.setTop (mkF m 6 #[.val (.ref a), .val (.ref t), .val (.int (0 : Int32))] [(.ref t), (.ref a)])) tgt → Steps p.tables e below (s₁.setTop (entryFrame m #[(.ref a), (.ref t), (.int (0 : Int32))] 3)) tgt := by
    intro tgt kk
    refine pre1 tgt ?_
    refine st2 _ ?_
    show Steps p.tables e below (T2.setTop (mkF m 4 #[.val (.ref a), .val (.ref t), .val (.int (0 : Int32))] [])) _
    refine XS.aloadN X2.here hx rfl (hb hby d6_4) rfl rfl ?_
    show Steps p.tables e below (T2.setTop (mkF m 5 #[.val (.ref a), .val (.ref t), .val (.int (0 : Int32))] [(.ref a)])) _
    refine XS.aloadN X2.here hx rfl (hb hby d6_5) rfl rfl ?_
    show Steps p.tables e below (T2.setTop (mkF m 6 #[.val (.ref a), .val (.ref t), .val (.int (0 : Int32))] [(.ref t), (.ref a)])) _
    exact kk
  obtain ⟨T4, h4, X4, e4, W4, st4⟩ := putF X2 hx hZ hown (host := "") (Or.inl (hw _ (List.mem_of_getElem? (i := 30) rfl))) Via.refl e2 F_value E_a (Or.inr ⟨(hw _ (List.mem_of_getElem? (i := 31) rfl)), rfl, hnm⟩) (hw _ (List.mem_of_getElem? (i := 18) rfl)) (ty := (.array .byte)) (by decide) rfl rfl (g := (mkF m 6 #[.val (.ref a), .val (.ref t), .val (.int (0 : Int32))] [(.ref t), (.ref a)])) rfl rfl (hb hby d6_6)
  have N4 := Fr.snoc X4 N0 g_a
  have Fq4 : Fld Z h4 a "java/lang/String" "value" "[B" (.ref t) := F_value.same W4
  have E_a : Exa Z h4 a "java/lang/String" := E_a.wr W4
  have F_coder : Fld Z h4 a "java/lang/String" "coder" "B" (.int (0 : Int32)) := F_coder.other W4 (Or.inr (slot_ne (Or.inr (hw _ (List.mem_of_getElem? (i := 33) rfl))) (Or.inr (hw _ (List.mem_of_getElem? (i := 31) rfl))) (by decide) (t := .byte) (t' := (.array .byte)) (by decide) (by decide)))
  have Zs5 : n0 ≤ h4.size := Nat.le_trans Z0 (Keep.of_wr W4).1
  have KC5 : Keep h0 h4 [a] := KC0.wr W4 (Or.inl (List.mem_of_getElem? (i := 0) rfl))
  have F_value := Fq4
  have pre6 : ∀ tgt, Steps p.tables e below (T4.setTop (mkF m 11 #[.val (.ref a), .val (.ref t), .val (.int (0 : Int32))] [(.int (0 : Int32)), (.ref a)])) tgt → Steps p.tables e below (s₁.setTop (entryFrame m #[(.ref a), (.ref t), (.int (0 : Int32))] 3)) tgt := by
    intro tgt kk
    refine pre3 tgt ?_
    refine st4 _ ?_
    show Steps p.tables e below (T4.setTop (mkF m 9 #[.val (.ref a), .val (.ref t), .val (.int (0 : Int32))] [])) _
    refine XS.aloadN X4.here hx rfl (hb hby d6_9) rfl rfl ?_
    show Steps p.tables e below (T4.setTop (mkF m 10 #[.val (.ref a), .val (.ref t), .val (.int (0 : Int32))] [(.ref a)])) _
    refine XS.iloadN X4.here hx rfl (hb hby d6_10) rfl ?_
    show Steps p.tables e below (T4.setTop (mkF m 11 #[.val (.ref a), .val (.ref t), .val (.int (0 : Int32))] [(.int (0 : Int32)), (.ref a)])) _
    exact kk
  obtain ⟨T7, h7, X7, e7, W7, st7⟩ := putFN X4 hx hZ hown (hw _ (List.mem_of_getElem? (i := 32) rfl)) Via.refl e4 F_coder E_a (Or.inr ⟨(hw _ (List.mem_of_getElem? (i := 33) rfl)), rfl, hnm⟩) (hw _ (List.mem_of_getElem? (i := 18) rfl)) (ty := .byte) (v' := (.int (0 : Int32))) (by decide) rfl rfl (g := (mkF m 11 #[.val (.ref a), .val (.ref t), .val (.int (0 : Int32))] [(.int (0 : Int32)), (.ref a)])) rfl rfl (hb hby d6_11)
  have N7 := Fr.snoc X7 N4 g_a
  have Fq7 : Fld Z h7 a "java/lang/String" "coder" "B" (.int (0 : Int32)) := F_coder.same W7
  have E_a : Exa Z h7 a "java/lang/String" := E_a.wr W7
  have F_value : Fld Z h7 a "java/lang/String" "value" "[B" (.ref t) := F_value.other W7 (Or.inr (slot_ne (Or.inr (hw _ (List.mem_of_getElem? (i := 31) rfl))) (Or.inr (hw _ (List.mem_of_getElem? (i := 33) rfl))) (by decide) (t := (.array .byte)) (t' := .byte) (by decide) (by decide)))
  have Zs8 : n0 ≤ h7.size := Nat.le_trans Zs5 (Keep.of_wr W7).1
  have KC8 : Keep h0 h7 [a] := KC5.wr W7 (Or.inl (List.mem_of_getElem? (i := 0) rfl))
  have F_coder := Fq7
  obtain ⟨fs, hr, hrun, hended, hW, hsame⟩ := X7.leave (v := none) (fun _ => rfl)
  refine ⟨_, _, pre6 _ ?_, hrun, hended, _, _, rfl, ?_, ⟨_, rfl⟩, hW, hsame.mono (by decide) (by decide)⟩
  · skip
    refine st7 _ ?_
    show Steps p.tables e below (T7.setTop (mkF m 14 #[.val (.ref a), .val (.ref t), .val (.int (0 : Int32))] [])) _
    exact X7.returnOut hx Bd.returns (hb hby d6_14) hr
  · show QSI Z a t h0 n0 _ T7.heap _
    rw [e7]
    exact ⟨rfl, N7, KC8, F_value, F_coder⟩
theorem d3_0 : decode jdk_42_method_139_code 0 = .ok (.getstatic 38, 3) := by decide +kernel
theorem d3_3 : decode jdk_42_method_139_code 3 = .ok (.ifCond .eq 23, 3) := by decide +kernel
theorem d3_6 : decode jdk_42_method_139_code 6 = .ok (.iload_n 0, 1) := by decide +kernel
theorem d3_7 : decode jdk_42_method_139_code 7 = .ok (.invokestatic 1015, 3) := by decide +kernel
theorem d3_10 : decode jdk_42_method_139_code 10 = .ok (.ifCond .eq 16, 3) := by decide +kernel
theorem d3_13 : decode jdk_42_method_139_code 13 = .ok (.new 10, 3) := by decide +kernel
theorem d3_16 : decode jdk_42_method_139_code 16 = .ok (.dup, 1) := by decide +kernel
theorem d3_17 : decode jdk_42_method_139_code 17 = .ok (.iload_n 0, 1) := by decide +kernel
theorem d3_18 : decode jdk_42_method_139_code 18 = .ok (.invokestatic 1018, 3) := by decide +kernel
theorem d3_21 : decode jdk_42_method_139_code 21 = .ok (.iconst 0, 1) := by decide +kernel
theorem d3_22 : decode jdk_42_method_139_code 22 = .ok (.invokespecial 209, 3) := by decide +kernel
theorem d3_25 : decode jdk_42_method_139_code 25 = .ok (.areturn, 1) := by decide +kernel
theorem pn_3 : plainName "java/lang/String" = true := by first | (simp [plainName, overriddenIn]; done) | decide +kernel
theorem pd__C_Z : parseMethodDescriptor "(C)Z" = some ⟨[.char], some .boolean⟩ := by decide +kernel
theorem pd__C__B : parseMethodDescriptor "(C)[B" = some ⟨[.char], some (.array .byte)⟩ := by decide +kernel
theorem pd___BB_V : parseMethodDescriptor "([BB)V" = some ⟨[(.array .byte), .byte], none⟩ := by decide +kernel
theorem ef_rmVO (m : MethodId) (x0 : Int32) : entryFrame m #[(.int x0)] 1 = mkF m 0 #[.val (.int x0)] [] := by first | (simp [entryFrame, mkF, argsToLocals, Value.category]; done) | rfl
def QVO (Z : State) (p1 : Int32) (z0 : Int32) (h0 : Heap) (n0 : Nat) (v : Option Value) (h : Heap) (L : List Loc) : Prop := ∃ (r t : Addr) (k : ClassId), v = some (.ref r) ∧ Fr n0 L ∧ Keep h0 h [] ∧ n0 ≤ r ∧ h0.size ≤ r ∧ n0 ≤ t ∧ h0.size ≤ t ∧ Exa Z h r "java/lang/String" ∧ Fld Z h r "java/lang/String" "value" "[B" (.ref t) ∧ Fld Z h r "java/lang/String" "coder" "B" (.int (0 : Int32)) ∧ Arv Z h t k .byte (1 : Int32) ((([p1] : List Int32).map (fun c => c.toInt8.toInt32)).map Value.int) (.int (0 : Int32))
set_option maxRecDepth 65536 in
set_option maxHeartbeats 40000000 in
theorem rmVO (l : Launch) (Z : State) (a0 : Array Value) (hw : ∀ d ∈ tables_1, d.before a0 Z = true) (ws : List Jvm.Cond) (p1 : Int32) (z0 : Int32) (h0 : Heap) (n0 : Nat) (Z0 : n0 ≤ h0.size) (S_CS : Sta Z h0 "java/lang/String" "COMPACT_STRINGS" "Z" (.int z0)) (hz : ¬ z0 = 0) (hp : ¬ p1 < 0 ∧ ¬ (255 : Int32) < p1) :
    MetFree l (⟨"java/lang/String", "valueOf", "(C)Ljava/lang/String;"⟩ : MethodName) (head1 (Jvm.Cond.code (⟨"java/lang/String", "valueOf", "(C)Ljava/lang/String;"⟩ : MethodName) jdk_42_method_139_code 1 (some (.object "java/lang/String")) :: ws) ({ frames := 2, cells := 2, slots := 5, locals := 30 } : Room)) (fun ar UU => ar = #[(.int p1)] ∧ Z.Warmed39 UU.vm ∧ UU.heap = h0) (fun _ _ _ _ _ => True) (fun _ UU oo UU' => ∃ vv LL, oo = .returned vv ∧ QVO Z p1 z0 h0 n0 vv UU'.heap LL ∧ FrameEnd UU oo UU' LL ({ frames := 2, cells := 2, slots := 5, locals := 30 } : Room).cells ({ frames := 2, cells := 2, slots := 5, locals := 30 } : Room).slots) := by
  refine MetFree.of_bodySF (plainFor_of_name pn_3) hisR ?_
  intro p e s m args below meth c s₁ Bd hml0 hP hK
  obtain ⟨rfl, hZ, hh⟩ := hP
  have hx := Bd.exec
  have hby := Bd.bytes
  have hml : c.maxLocals = 1 := hml0
  have hown : s.vm.findClass "java/lang/String" = some m.cls := findClass_of_methodNamed Bd.named
  have hnm := (name_of_methodNamed Bd.named Bd.method).1
  have X0 : Stand p l e ({ frames := 2, cells := 2, slots := 5, locals := 30 } : Room) s m #[(.int p1)] below meth c s₁ [] 0 0 := Stand.of_body Bd
  have e0 : s₁.heap = h0 := by rw [← hh, Bd.state]; rfl
  have N0 := Fr.nil n0
  have KC0 : Keep h0 h0 [] := Keep.refl h0 []
  have pre0 : ∀ tgt, Steps p.tables e below (s₁.setTop (mkF m 0 #[.val (.int p1)] [])) tgt → Steps p.tables e below (s₁.setTop (entryFrame m #[(.int p1)] 1)) tgt := fun tgt kk => castTop (ef_rmVO m (p1)) kk
  obtain ⟨T1, X1, e1, st1⟩ := getS X0 hx hZ hown (host := "") (hw _ (List.mem_of_getElem? (i := 12) rfl)) Via.refl e0 S_CS (g := (mkF m 0 #[.val (.int p1)] [])) rfl (hb hby d3_0)
  have hk2 : ¬ (z0 = (0 : Int32)) := hz
  have pre3 : ∀ tgt, Steps p.tables e below (T1.setTop (mkF m 7 #[.val (.int p1)] [(.int p1)])) tgt → Steps p.tables e below (s₁.setTop (entryFrame m #[(.int p1)] 1)) tgt := by
    intro tgt kk
    refine pre0 tgt ?_
    refine st1 _ ?_
    show Steps p.tables e below (T1.setTop (mkF m 3 #[.val (.int p1)] [(.int z0)])) _
    refine XS.ifNo X1.here hx rfl (hb hby d3_3) rfl (XT.i0_eq_f hk2) ?_
    show Steps p.tables e below (T1.setTop (mkF m 6 #[.val (.int p1)] [])) _
    refine XS.iloadN X1.here hx rfl (hb hby d3_6) rfl ?_
    show Steps p.tables e below (T1.setTop (mkF m 7 #[.val (.int p1)] [(.int p1)])) _
    exact kk
  obtain ⟨_, _, ⟨T4, L4, k4, n4⟩, -, X4, ⟨Lc4, hQ4, l4, y4, z4⟩, st4⟩ := Jvm.LawKit.callS X1 hx (y := (⟨"java/lang/StringLatin1", "canEncode", "(C)Z"⟩ : MethodName)) hown (mvT hZ (hw _ (List.mem_of_getElem? (i := 13) rfl))) (mvT hZ (hw _ (List.mem_of_getElem? (i := 14) rfl))) (mvT hZ (hw _ (List.mem_of_getElem? (i := 15) rfl))) (mvT hZ (hw _ (List.mem_of_getElem? (i := 16) rfl))) (by decide) (backOf (W := 0) (rmCE l Z a0 hw [] p1 h0 n0 Z0 hp) hZ (hw _ (List.mem_of_getElem? (i := 16) rfl)) (hw _ (List.mem_of_getElem? (i := 15) rfl)) (by decide) (by decide)) (g := (mkF m 7 #[.val (.int p1)] [(.int p1)])) rfl (by rw [hml]; rfl) (argsL := [(.int p1)]) (rest := []) (lenOf pd__C_Z rfl) rfl (by show 2 * 0 + _ ≤ _; exact Nat.le_of_eq rfl) (hb hby d3_7) (fun _ _ => ⟨rfl, e1, (by decide : 0 + 0 ≤ _), (by decide : 0 + 0 ≤ _)⟩)
  dsimp only [Pt.U, Pt.locs, Pt.cells, Pt.slots] at X4 l4 y4 z4 st4 hQ4
  subst l4 y4 z4
  obtain ⟨rfl, N4q, hh4⟩ := hQ4
  have N4 := Fr.app N0 N4q
  have pre5 : ∀ tgt, Steps p.tables e below (T4.setTop (mkF m 13 #[.val (.int p1)] [])) tgt → Steps p.tables e below (s₁.setTop (entryFrame m #[(.int p1)] 1)) tgt := by
    intro tgt kk
    refine pre3 tgt ?_
    refine st4 _ ?_
    show Steps p.tables e below (T4.setTop (mkF m 10 #[.val (.int p1)] [(.int (1 : Int32))])) _
    refine XS.ifNo X4.here hx rfl (hb hby d3_10) rfl (XT.i0_eq_f (by decide)) ?_
    show Steps p.tables e below (T4.setTop (mkF m 13 #[.val (.int p1)] [])) _
    exact kk
  obtain ⟨T6, h6, X6, e6, E6, A6, D6, -, st6⟩ := newO X4 hx hZ hown (hw _ (List.mem_of_getElem? (i := 17) rfl)) (hw _ (List.mem_of_getElem? (i := 18) rfl)) (hw _ (List.mem_of_getElem? (i := 10) rfl)) hh4 (g := (mkF m 13 #[.val (.int p1)] [])) rfl (hb hby d3_13) (by decide) (by decide)
  obtain ⟨b6, g6⟩ : ∃ z, z = h0.size := ⟨_, rfl⟩
  rw [← g6] at A6 D6 st6
  have gn7 : n0 ≤ b6 := Nat.le_trans Z0 (Nat.le_of_eq g6.symm)
  have sz7 : h0.size ≤ b6 := Nat.le_trans KC0.1 (Nat.le_of_eq g6.symm)
  have S_CS : Sta Z h6 "java/lang/String" "COMPACT_STRINGS" "Z" (.int z0) := S_CS.ext E6
  have Zs8 : n0 ≤ h6.size := Nat.le_trans Z0 E6.1
  have KC8 : Keep h0 h6 [] := KC0.ext E6
  have E_b6 : Exa Z h6 b6 "java/lang/String" := A6
  have F_value_b6 : Fld Z h6 b6 "java/lang/String" "value" "[B" .null := D6 (Or.inr (hw _ (List.mem_of_getElem? (i := 31) rfl))) (ty := (.array .byte)) (by decide)
  have F_coder_b6 : Fld Z h6 b6 "java/lang/String" "coder" "B" (.int (0 : Int32)) := D6 (Or.inr (hw _ (List.mem_of_getElem? (i := 33) rfl))) (ty := .byte) (by decide)
  have pre9 : ∀ tgt, Steps p.tables e below (T6.setTop (mkF m 18 #[.val (.int p1)] [(.int p1), (.ref b6), (.ref b6)])) tgt → Steps p.tables e below (s₁.setTop (entryFrame m #[(.int p1)] 1)) tgt := by
    intro tgt kk
    refine pre5 tgt ?_
    refine st6 _ ?_
    show Steps p.tables e below (T6.setTop (mkF m 16 #[.val (.int p1)] [(.ref b6)])) _
    refine XS.dup X6.here hx rfl (hb hby d3_16) rfl rfl ?_
    show Steps p.tables e below (T6.setTop (mkF m 17 #[.val (.int p1)] [(.ref b6), (.ref b6)])) _
    refine XS.iloadN X6.here hx rfl (hb hby d3_17) rfl ?_
    show Steps p.tables e below (T6.setTop (mkF m 18 #[.val (.int p1)] [(.int p1), (.ref b6), (.ref b6)])) _
    exact kk
  have lt10_0 := E_b6.lt
  obtain ⟨_, _, ⟨T11, L11, k11, n11⟩, -, X11, ⟨Lc11, hQ11, l11, y11, z11⟩, st11⟩ := Jvm.LawKit.callS X6 hx (y := (⟨"java/lang/StringLatin1", "toBytes", "(C)[B"⟩ : MethodName)) hown (mvT hZ (hw _ (List.mem_of_getElem? (i := 19) rfl))) (mvT hZ (hw _ (List.mem_of_getElem? (i := 20) rfl))) (mvT hZ (hw _ (List.mem_of_getElem? (i := 15) rfl))) (mvT hZ (hw _ (List.mem_of_getElem? (i := 21) rfl))) (by decide) (backOf (W := 2) (rmTB l Z a0 hw [] p1 h6 n0 Zs8) hZ (hw _ (List.mem_of_getElem? (i := 21) rfl)) (hw _ (List.mem_of_getElem? (i := 15) rfl)) (by decide) (by decide)) (g := (mkF m 18 #[.val (.int p1)] [(.int p1), (.ref b6), (.ref b6)])) rfl (by rw [hml]; rfl) (argsL := [(.int p1)]) (rest := [(.ref b6), (.ref b6)]) (lenOf pd__C__B rfl) rfl (by show 2 * 0 + _ ≤ _; exact Nat.le_of_eq rfl) (hb hby d3_18) (fun _ _ => ⟨rfl, e6, (by decide : 1 + 1 ≤ _), (by decide : 4 + 1 ≤ _)⟩)
  dsimp only [Pt.U, Pt.locs, Pt.cells, Pt.slots] at X11 l11 y11 z11 st11 hQ11
  subst l11 y11 z11
  obtain ⟨r11, kk11, rfl, N11q, K11, gr11, sr11, Qa11⟩ := hQ11
  have N11 := Fr.app N4 N11q
  have S_CS : Sta Z T11.heap "java/lang/String" "COMPACT_STRINGS" "Z" (.int z0) := own_sta_keep S_CS K11 all0
  have E_b6 : Exa Z T11.heap b6 "java/lang/String" := E_b6.keep K11
  have F_value_b6 : Fld Z T11.heap b6 "java/lang/String" "value" "[B" .null := F_value_b6.keep K11 nin0
  have F_coder_b6 : Fld Z T11.heap b6 "java/lang/String" "coder" "B" (.int (0 : Int32)) := F_coder_b6.keep K11 nin0
  have Zs12 : n0 ≤ T11.heap.size := Nat.le_trans Zs8 K11.1
  have KC12 : Keep h0 T11.heap [] := KC8.trans K11 all0
  have ner11lt10_0 : b6 ≠ r11 := Nat.ne_of_lt (Nat.lt_of_lt_of_le lt10_0 sr11)
  have szr11 : h0.size ≤ r11 := Nat.le_trans KC8.1 sr11
  have V_r11 : Arv Z T11.heap r11 kk11 .byte (1 : Int32) [(.int (nar .byte p1.toInt8.toInt32))] (.int (0 : Int32)) := Qa11
  have pre13 : ∀ tgt, Steps p.tables e below (T11.setTop (mkF m 22 #[.val (.int p1)] [(.int (0 : Int32)), (.ref r11), (.ref b6), (.ref b6)])) tgt → Steps p.tables e below (s₁.setTop (entryFrame m #[(.int p1)] 1)) tgt := by
    intro tgt kk
    refine pre9 tgt ?_
    refine st11 _ ?_
    show Steps p.tables e below (T11.setTop (mkF m 21 #[.val (.int p1)] [(.ref r11), (.ref b6), (.ref b6)])) _
    refine XS.iconst X11.here hx rfl (hb hby d3_21) ?_
    show Steps p.tables e below (T11.setTop (mkF m 22 #[.val (.int p1)] [(.int (0 : Int32)), (.ref r11), (.ref b6), (.ref b6)])) _
    exact kk
  obtain ⟨_, _, ⟨T14, L14, k14, n14⟩, -, X14, ⟨Lc14, hQ14, l14, y14, z14⟩, st14⟩ := X11.specialBack hx (y := (⟨"java/lang/String", "<init>", "([BB)V"⟩ : MethodName)) rfl hown (mvT hZ (hw _ (List.mem_of_getElem? (i := 23) rfl))) (mvT hZ (hw _ (List.mem_of_getElem? (i := 24) rfl))) (mvT hZ (hw _ (List.mem_of_getElem? (i := 26) rfl))) (by decide) (backOf (W := 1) (rmSI l Z a0 hw [] b6 r11 T11.heap n0 Zs12 E_b6 F_value_b6 F_coder_b6 gn7) hZ (hw _ (List.mem_of_getElem? (i := 26) rfl)) (hw _ (List.mem_of_getElem? (i := 10) rfl)) (by decide) (by decide)) (g := (mkF m 22 #[.val (.int p1)] [(.int (0 : Int32)), (.ref r11), (.ref b6), (.ref b6)])) rfl (by rw [hml]; rfl) (Steps.refl _) (a := b6) (argsL := [(.ref r11), (.int (0 : Int32))]) (rest := [(.ref b6)]) (lenOf pd___BB_V rfl) rfl (by show 2 * 0 + _ ≤ _; exact Nat.le_of_eq rfl) (hb hby d3_22) (fun _ _ => ⟨rfl, rfl, (by decide : 2 + 0 ≤ _), (by decide : 5 + 0 ≤ _)⟩)
  dsimp only [Pt.U, Pt.locs, Pt.cells, Pt.slots] at X14 l14 y14 z14 st14 hQ14
  subst l14 y14 z14
  obtain ⟨rfl, N14q, K14, Fq14_0, Fq14_1⟩ := hQ14
  have N14 := Fr.app N11 N14q
  have pl16 := own_plain_Exa E_b6
  have S_CS : Sta Z T14.heap "java/lang/String" "COMPACT_STRINGS" "Z" (.int z0) := own_sta_keep S_CS K14 (allS pl16 all0)
  have E_b6 : Exa Z T14.heap b6 "java/lang/String" := E_b6.keep K14
  have V_r11 : Arv Z T14.heap r11 kk11 .byte (1 : Int32) [(.int (nar .byte p1.toInt8.toInt32))] (.int (0 : Int32)) := V_r11.keep K14 (ninS (Ne.symm ner11lt10_0) nin0)
  have Zs15 : n0 ≤ T14.heap.size := Nat.le_trans Zs12 K14.1
  have KC15 : Keep h0 T14.heap [] := KC12.trans K14 (allS (Or.inr sz7) all0)
  have F_value_b6 := Fq14_0
  have F_coder_b6 := Fq14_1
  obtain ⟨fs, hr, hrun, hended, hW, hsame⟩ := X14.leave (v := some (.ref b6)) (fun h => by rw [Bd.returns] at h; cases h)
  refine ⟨_, _, pre13 _ ?_, hrun, hended, _, _, rfl, ?_, ⟨_, rfl⟩, hW, hsame.mono (by decide) (by decide)⟩
  · skip
    refine st14.trans ?_
    show Steps p.tables e below (T14.setTop (mkF m 25 #[.val (.int p1)] [(.ref b6)])) _
    exact retOut X14 hx Bd.returns rfl (Or.inr (Or.inr (Or.inr (Or.inr ⟨rfl, rfl, rfl⟩)))) (hb hby d3_25) hr
  · show QVO Z p1 z0 h0 n0 _ T14.heap _
    exact ⟨b6, r11, kk11, rfl, N14, KC15, gn7, sz7, gr11, szr11, E_b6, F_value_b6, F_coder_b6, own_vb V_r11⟩
theorem d2_0 : decode method_2_code 0 = .ok (.iload_n 0, 1) := by decide +kernel
theorem d2_1 : decode method_2_code 1 = .ok (.bipush 127, 2) := by decide +kernel
theorem d2_3 : decode method_2_code 3 = .ok (.iand, 1) := by decide +kernel
theorem d2_4 : decode method_2_code 4 = .ok (.i2c, 1) := by decide +kernel
theorem d2_5 : decode method_2_code 5 = .ok (.istore_n 1, 1) := by decide +kernel
theorem d2_6 : decode method_2_code 6 = .ok (.iload_n 0, 1) := by decide +kernel
theorem d2_7 : decode method_2_code 7 = .ok (.sipush 128, 3) := by decide +kernel
theorem d2_10 : decode method_2_code 10 = .ok (.iand, 1) := by decide +kernel
theorem d2_11 : decode method_2_code 11 = .ok (.ifCond .eq 23, 3) := by decide +kernel
theorem d2_14 : decode method_2_code 14 = .ok (.new 7, 3) := by decide +kernel
theorem d2_17 : decode method_2_code 17 = .ok (.dup, 1) := by decide +kernel
theorem d2_18 : decode method_2_code 18 = .ok (.iconst 2, 1) := by decide +kernel
theorem d2_19 : decode method_2_code 19 = .ok (.newarray .char, 2) := by decide +kernel
theorem d2_21 : decode method_2_code 21 = .ok (.dup, 1) := by decide +kernel
theorem d2_22 : decode method_2_code 22 = .ok (.iconst 0, 1) := by decide +kernel
theorem d2_23 : decode method_2_code 23 = .ok (.iload_n 1, 1) := by decide +kernel
theorem d2_24 : decode method_2_code 24 = .ok (.castore, 1) := by decide +kernel
theorem d2_25 : decode method_2_code 25 = .ok (.dup, 1) := by decide +kernel
theorem d2_26 : decode method_2_code 26 = .ok (.iconst 1, 1) := by decide +kernel
theorem d2_27 : decode method_2_code 27 = .ok (.bipush 97, 2) := by decide +kernel
theorem d2_29 : decode method_2_code 29 = .ok (.castore, 1) := by decide +kernel
theorem d2_30 : decode method_2_code 30 = .ok (.invokespecial 9, 3) := by decide +kernel
theorem d2_33 : decode method_2_code 33 = .ok (.areturn, 1) := by decide +kernel
theorem d2_34 : decode method_2_code 34 = .ok (.iload_n 1, 1) := by decide +kernel
theorem d2_35 : decode method_2_code 35 = .ok (.invokestatic 12, 3) := by decide +kernel
theorem d2_38 : decode method_2_code 38 = .ok (.areturn, 1) := by decide +kernel
theorem pn_2 : plainName "com/example/leasehold/leasehold/LeaseRequestHasTermsOfPinLaw" = true := by first | (simp [plainName, overriddenIn]; done) | decide +kernel
theorem pd__C_Ljava_lang_String_ : parseMethodDescriptor "(C)Ljava/lang/String;" = some ⟨[.char], some (.object "java/lang/String")⟩ := by decide +kernel
theorem pd___C_V : parseMethodDescriptor "([C)V" = some ⟨[(.array .char)], none⟩ := by decide +kernel
theorem ef_rmStr (m : MethodId) (x0 : Int32) : entryFrame m #[(.int x0)] 2 = mkF m 0 #[.val (.int x0), .unset] [] := by first | (simp [entryFrame, mkF, argsToLocals, Value.category]; done) | rfl
def QStr (Z : State) (p1 : Int32) (z0 : Int32) (h0 : Heap) (n0 : Nat) (v : Option Value) (h : Heap) (L : List Loc) : Prop := ∃ (r t : Addr) (k : ClassId), v = some (.ref r) ∧ Fr n0 L ∧ Keep h0 h [] ∧ n0 ≤ r ∧ h0.size ≤ r ∧ n0 ≤ t ∧ h0.size ≤ t ∧ Exa Z h r "java/lang/String" ∧ Fld Z h r "java/lang/String" "value" "[B" (.ref t) ∧ Fld Z h r "java/lang/String" "coder" "B" (.int (0 : Int32)) ∧ Arv Z h t k .byte (Int32.ofNat (own_sv p1).length) (((own_sv p1).map (fun c => c.toInt8.toInt32)).map Value.int) (.int (0 : Int32))
set_option maxRecDepth 65536 in
set_option maxHeartbeats 40000000 in
theorem rmStr (l : Launch) (Z : State) (a0 : Array Value) (hw : ∀ d ∈ tables_1, d.before a0 Z = true) (ws : List Jvm.Cond) (p1 : Int32) (z0 : Int32) (h0 : Heap) (n0 : Nat) (Z0 : n0 ≤ h0.size) (S_CS : Sta Z h0 "java/lang/String" "COMPACT_STRINGS" "Z" (.int z0)) (hz : ¬ z0 = 0) :
    MetFree l (⟨"com/example/leasehold/leasehold/LeaseRequestHasTermsOfPinLaw", "str", "(I)Ljava/lang/String;"⟩ : MethodName) (head1 (Jvm.Cond.code (⟨"com/example/leasehold/leasehold/LeaseRequestHasTermsOfPinLaw", "str", "(I)Ljava/lang/String;"⟩ : MethodName) method_2_code 2 (some (.object "java/lang/String")) :: ws) ({ frames := 4, cells := 3, slots := 8, locals := 66 } : Room)) (fun ar UU => ar = #[(.int p1)] ∧ Z.Warmed39 UU.vm ∧ UU.heap = h0) (fun _ _ _ _ _ => True) (fun _ UU oo UU' => ∃ vv LL, oo = .returned vv ∧ QStr Z p1 z0 h0 n0 vv UU'.heap LL ∧ FrameEnd UU oo UU' LL ({ frames := 4, cells := 3, slots := 8, locals := 66 } : Room).cells ({ frames := 4, cells := 3, slots := 8, locals := 66 } : Room).slots) := by
  refine MetFree.of_bodySF (plainFor_of_name pn_2) hisR ?_
  intro p e s m args below meth c s₁ Bd hml0 hP hK
  obtain ⟨rfl, hZ, hh⟩ := hP
  have hx := Bd.exec
  have hby := Bd.bytes
  have hml : c.maxLocals = 2 := hml0
  have hown : s.vm.findClass "com/example/leasehold/leasehold/LeaseRequestHasTermsOfPinLaw" = some m.cls := findClass_of_methodNamed Bd.named
  have hnm := (name_of_methodNamed Bd.named Bd.method).1
  have X0 : Stand p l e ({ frames := 4, cells := 3, slots := 8, locals := 66 } : Room) s m #[(.int p1)] below meth c s₁ [] 0 0 := Stand.of_body Bd
  have e0 : s₁.heap = h0 := by rw [← hh, Bd.state]; rfl
  have N0 := Fr.nil n0
  have KC0 : Keep h0 h0 [] := Keep.refl h0 []
  have pre0 : ∀ tgt, Steps p.tables e below (s₁.setTop (mkF m 0 #[.val (.int p1), .unset] [])) tgt → Steps p.tables e below (s₁.setTop (entryFrame m #[(.int p1)] 2)) tgt := fun tgt kk => castTop (ef_rmStr m (p1)) kk
  have pre1 : ∀ tgt, Steps p.tables e below (s₁.setTop (mkF m 11 #[.val (.int p1), .val (.int (p1 &&& (127 : Int32)).toUInt32.toUInt16.toUInt32.toInt32)] [(.int (p1 &&& (128 : Int32)))])) tgt → Steps p.tables e below (s₁.setTop (entryFrame m #[(.int p1)] 2)) tgt := by
    intro tgt kk
    refine pre0 tgt ?_
    refine XS.iloadN X0.here hx rfl (hb hby d2_0) rfl ?_
    show Steps p.tables e below (s₁.setTop (mkF m 1 #[.val (.int p1), .unset] [(.int p1)])) _
    refine XS.bipush X0.here hx rfl (hb hby d2_1) ?_
    show Steps p.tables e below (s₁.setTop (mkF m 3 #[.val (.int p1), .unset] [(.int (127 : Int32)), (.int p1)])) _
    refine XS.iand X0.here hx rfl (hb hby d2_3) rfl ?_
    show Steps p.tables e below (s₁.setTop (mkF m 4 #[.val (.int p1), .unset] [(.int (p1 &&& (127 : Int32)))])) _
    refine XS.i2c X0.here hx rfl (hb hby d2_4) rfl ?_
    show Steps p.tables e below (s₁.setTop (mkF m 5 #[.val (.int p1), .unset] [(.int (p1 &&& (127 : Int32)).toUInt32.toUInt16.toUInt32.toInt32)])) _
    refine XS.istoreN X0.here hx rfl (hb hby d2_5) rfl (l' := #[.val (.int p1), .val (.int (p1 &&& (127 : Int32)).toUInt32.toUInt16.toUInt32.toInt32)]) rfl ?_
    show Steps p.tables e below (s₁.setTop (mkF m 6 #[.val (.int p1), .val (.int (p1 &&& (127 : Int32)).toUInt32.toUInt16.toUInt32.toInt32)] [])) _
    refine XS.iloadN X0.here hx rfl (hb hby d2_6) rfl ?_
    show Steps p.tables e below (s₁.setTop (mkF m 7 #[.val (.int p1), .val (.int (p1 &&& (127 : Int32)).toUInt32.toUInt16.toUInt32.toInt32)] [(.int p1)])) _
    refine XS.sipush X0.here hx rfl (hb hby d2_7) ?_
    show Steps p.tables e below (s₁.setTop (mkF m 10 #[.val (.int p1), .val (.int (p1 &&& (127 : Int32)).toUInt32.toUInt16.toUInt32.toInt32)] [(.int (128 : Int32)), (.int p1)])) _
    refine XS.iand X0.here hx rfl (hb hby d2_10) rfl ?_
    show Steps p.tables e below (s₁.setTop (mkF m 11 #[.val (.int p1), .val (.int (p1 &&& (127 : Int32)).toUInt32.toUInt16.toUInt32.toInt32)] [(.int (p1 &&& (128 : Int32)))])) _
    exact kk
  by_cases hc11_2 : (p1 &&& (128 : Int32)) = (0 : Int32)
  · skip
    have pre3 : ∀ tgt, Steps p.tables e below (s₁.setTop (mkF m 35 #[.val (.int p1), .val (.int (p1 &&& (127 : Int32)).toUInt32.toUInt16.toUInt32.toInt32)] [(.int (p1 &&& (127 : Int32)).toUInt32.toUInt16.toUInt32.toInt32)])) tgt → Steps p.tables e below (s₁.setTop (entryFrame m #[(.int p1)] 2)) tgt := by
      intro tgt kk
      refine pre1 tgt ?_
      refine XS.ifYes X0.here hx rfl (pc0 := 11) (pc' := 34) rfl (hb hby d2_11) rfl (XT.i0_eq_t hc11_2) (by decide) (by decide) ?_
      show Steps p.tables e below (s₁.setTop (mkF m 34 #[.val (.int p1), .val (.int (p1 &&& (127 : Int32)).toUInt32.toUInt16.toUInt32.toInt32)] [])) _
      refine XS.iloadN X0.here hx rfl (hb hby d2_34) rfl ?_
      show Steps p.tables e below (s₁.setTop (mkF m 35 #[.val (.int p1), .val (.int (p1 &&& (127 : Int32)).toUInt32.toUInt16.toUInt32.toInt32)] [(.int (p1 &&& (127 : Int32)).toUInt32.toUInt16.toUInt32.toInt32)])) _
      exact kk
    obtain ⟨_, _, ⟨T5, L5, k5, n5⟩, -, X5, ⟨Lc5, hQ5, l5, y5, z5⟩, st5⟩ := Jvm.LawKit.callS X0 hx (y := (⟨"java/lang/String", "valueOf", "(C)Ljava/lang/String;"⟩ : MethodName)) hown (mvT hZ (hw _ (List.mem_of_getElem? (i := 8) rfl))) (mvT hZ (hw _ (List.mem_of_getElem? (i := 9) rfl))) (mvT hZ (hw _ (List.mem_of_getElem? (i := 10) rfl))) (mvT hZ (hw _ (List.mem_of_getElem? (i := 11) rfl))) (by decide) (backOf (W := 0) (rmVO l Z a0 hw [] ((p1 &&& (127 : Int32)).toUInt32.toUInt16.toUInt32.toInt32) z0 h0 n0 Z0 S_CS hz (own_x127 p1)) hZ (hw _ (List.mem_of_getElem? (i := 11) rfl)) (hw _ (List.mem_of_getElem? (i := 10) rfl)) (by decide) (by decide)) (g := (mkF m 35 #[.val (.int p1), .val (.int (p1 &&& (127 : Int32)).toUInt32.toUInt16.toUInt32.toInt32)] [(.int (p1 &&& (127 : Int32)).toUInt32.toUInt16.toUInt32.toInt32)])) rfl (by rw [hml]; rfl) (argsL := [(.int (p1 &&& (127 : Int32)).toUInt32.toUInt16.toUInt32.toInt32)]) (rest := []) (lenOf pd__C_Ljava_lang_String_ rfl) rfl (by show 2 * 0 + _ ≤ _; exact Nat.le_of_eq rfl) (hb hby d2_35) (fun _ _ => ⟨rfl, e0, (by decide : 0 + 2 ≤ _), (by decide : 0 + 5 ≤ _)⟩)
    dsimp only [Pt.U, Pt.locs, Pt.cells, Pt.slots] at X5 l5 y5 z5 st5 hQ5
    subst l5 y5 z5
    obtain ⟨r5, t5, kk5, rfl, N5q, K5, gr5, sr5, gt5, st_5, Qe5, Qv5, Qc5, Qa5⟩ := hQ5
    have N5 := Fr.app N0 N5q
    have S_CS : Sta Z T5.heap "java/lang/String" "COMPACT_STRINGS" "Z" (.int z0) := own_sta_keep S_CS K5 all0
    have Zs6 : n0 ≤ T5.heap.size := Nat.le_trans Z0 K5.1
    have KC6 : Keep h0 T5.heap [] := KC0.trans K5 all0
    have szr5 : h0.size ≤ r5 := Nat.le_trans KC0.1 sr5
    have szt5 : h0.size ≤ t5 := Nat.le_trans KC0.1 st_5
    have E_r5 : Exa Z T5.heap r5 "java/lang/String" := Qe5
    have Fv_r5 : Fld Z T5.heap r5 "java/lang/String" "value" "[B" (.ref t5) := Qv5
    have Fc_r5 : Fld Z T5.heap r5 "java/lang/String" "coder" "B" (.int (0 : Int32)) := Qc5
    have V_r5 : Arv Z T5.heap t5 kk5 .byte (1 : Int32) ((([(p1 &&& (127 : Int32)).toUInt32.toUInt16.toUInt32.toInt32] : List Int32).map (fun c => c.toInt8.toInt32)).map Value.int) (.int (0 : Int32)) := Qa5
    obtain ⟨fs, hr, hrun, hended, hW, hsame⟩ := X5.leave (v := some (.ref r5)) (fun h => by rw [Bd.returns] at h; cases h)
    refine ⟨_, _, pre3 _ ?_, hrun, hended, _, _, rfl, ?_, ⟨_, rfl⟩, hW, hsame.mono (by decide) (by decide)⟩
    · skip
      refine st5 _ ?_
      show Steps p.tables e below (T5.setTop (mkF m 38 #[.val (.int p1), .val (.int (p1 &&& (127 : Int32)).toUInt32.toUInt16.toUInt32.toInt32)] [(.ref r5)])) _
      exact retOut X5 hx Bd.returns rfl (Or.inr (Or.inr (Or.inr (Or.inr ⟨rfl, rfl, rfl⟩)))) (hb hby d2_38) hr
    · show QStr Z p1 z0 h0 n0 _ T5.heap _
      have eq : own_sv p1 = [(p1 &&& (127 : Int32)).toUInt32.toUInt16.toUInt32.toInt32] := by unfold own_sv; rw [if_pos hc11_2]
      refine ⟨r5, t5, kk5, rfl, N5, KC6, gr5, szr5, gt5, szt5, E_r5, Fv_r5, Fc_r5, ?_⟩
      rw [eq]; exact V_r5
  · skip
    have pre7 : ∀ tgt, Steps p.tables e below (s₁.setTop (mkF m 14 #[.val (.int p1), .val (.int (p1 &&& (127 : Int32)).toUInt32.toUInt16.toUInt32.toInt32)] [])) tgt → Steps p.tables e below (s₁.setTop (entryFrame m #[(.int p1)] 2)) tgt := by
      intro tgt kk
      refine pre1 tgt ?_
      refine XS.ifNo X0.here hx rfl (hb hby d2_11) rfl (XT.i0_eq_f hc11_2) ?_
      show Steps p.tables e below (s₁.setTop (mkF m 14 #[.val (.int p1), .val (.int (p1 &&& (127 : Int32)).toUInt32.toUInt16.toUInt32.toInt32)] [])) _
      exact kk
    obtain ⟨T8, h8, X8, e8, E8, A8, D8, -, st8⟩ := newO X0 hx hZ hown (hw _ (List.mem_of_getElem? (i := 131) rfl)) (hw _ (List.mem_of_getElem? (i := 18) rfl)) (hw _ (List.mem_of_getElem? (i := 10) rfl)) e0 (g := (mkF m 14 #[.val (.int p1), .val (.int (p1 &&& (127 : Int32)).toUInt32.toUInt16.toUInt32.toInt32)] [])) rfl (hb hby d2_14) (by decide) (by decide)
    obtain ⟨b8, g8⟩ : ∃ z, z = h0.size := ⟨_, rfl⟩
    rw [← g8] at A8 D8 st8
    have gn9 : n0 ≤ b8 := Nat.le_trans Z0 (Nat.le_of_eq g8.symm)
    have sz9 : h0.size ≤ b8 := Nat.le_trans KC0.1 (Nat.le_of_eq g8.symm)
    have S_CS : Sta Z h8 "java/lang/String" "COMPACT_STRINGS" "Z" (.int z0) := S_CS.ext E8
    have Zs10 : n0 ≤ h8.size := Nat.le_trans Z0 E8.1
    have KC10 : Keep h0 h8 [] := KC0.ext E8
    have E_b8 : Exa Z h8 b8 "java/lang/String" := A8
    have F_value_b8 : Fld Z h8 b8 "java/lang/String" "value" "[B" .null := D8 (Or.inr (hw _ (List.mem_of_getElem? (i := 31) rfl))) (ty := (.array .byte)) (by decide)
    have F_coder_b8 : Fld Z h8 b8 "java/lang/String" "coder" "B" (.int (0 : Int32)) := D8 (Or.inr (hw _ (List.mem_of_getElem? (i := 33) rfl))) (ty := .byte) (by decide)
    have pre11 : ∀ tgt, Steps p.tables e below (T8.setTop (mkF m 19 #[.val (.int p1), .val (.int (p1 &&& (127 : Int32)).toUInt32.toUInt16.toUInt32.toInt32)] [(.int (2 : Int32)), (.ref b8), (.ref b8)])) tgt → Steps p.tables e below (s₁.setTop (entryFrame m #[(.int p1)] 2)) tgt := by
      intro tgt kk
      refine pre7 tgt ?_
      refine st8 _ ?_
      show Steps p.tables e below (T8.setTop (mkF m 17 #[.val (.int p1), .val (.int (p1 &&& (127 : Int32)).toUInt32.toUInt16.toUInt32.toInt32)] [(.ref b8)])) _
      refine XS.dup X8.here hx rfl (hb hby d2_17) rfl rfl ?_
      show Steps p.tables e below (T8.setTop (mkF m 18 #[.val (.int p1), .val (.int (p1 &&& (127 : Int32)).toUInt32.toUInt16.toUInt32.toInt32)] [(.ref b8), (.ref b8)])) _
      refine XS.iconst X8.here hx rfl (hb hby d2_18) ?_
      show Steps p.tables e below (T8.setTop (mkF m 19 #[.val (.int p1), .val (.int (p1 &&& (127 : Int32)).toUInt32.toUInt16.toUInt32.toInt32)] [(.int (2 : Int32)), (.ref b8), (.ref b8)])) _
      exact kk
    obtain ⟨T12, h12, k12, X12, e12, E12, A12, st12⟩ := newP X8 hx hZ (hw _ (List.mem_of_getElem? (i := 132) rfl)) e8 (g := (mkF m 19 #[.val (.int p1), .val (.int (p1 &&& (127 : Int32)).toUInt32.toUInt16.toUInt32.toInt32)] [(.int (2 : Int32)), (.ref b8), (.ref b8)])) rfl (hb hby d2_19) rfl (by decide) (cap := 2) (by decide) (by decide) (by decide) (by decide)
    obtain ⟨b12, g12⟩ : ∃ z, z = h8.size := ⟨_, rfl⟩
    rw [← g12] at A12 st12
    have ne13 : b8 ≠ b12 := Nat.ne_of_lt (Nat.lt_of_lt_of_le E_b8.lt (Nat.le_of_eq g12.symm))
    have gn14 : n0 ≤ b12 := Nat.le_trans Zs10 (Nat.le_of_eq g12.symm)
    have sz14 : h0.size ≤ b12 := Nat.le_trans KC10.1 (Nat.le_of_eq g12.symm)
    have S_CS : Sta Z h12 "java/lang/String" "COMPACT_STRINGS" "Z" (.int z0) := S_CS.ext E12
    have E_b8 : Exa Z h12 b8 "java/lang/String" := E_b8.ext E12
    have F_value_b8 : Fld Z h12 b8 "java/lang/String" "value" "[B" .null := F_value_b8.ext E12
    have F_coder_b8 : Fld Z h12 b8 "java/lang/String" "coder" "B" (.int (0 : Int32)) := F_coder_b8.ext E12
    have Zs15 : n0 ≤ h12.size := Nat.le_trans Zs10 E12.1
    have KC15 : Keep h0 h12 [] := KC10.ext E12
    have V_b12 : Arv Z h12 b12 k12 .char (2 : Int32) [(.int (0 : Int32)), (.int (0 : Int32))] (.int (0 : Int32)) := (Arv.new A12 (by decide)).pad (pad_rep [] (.int (0 : Int32)) 2)
    have pre16 : ∀ tgt, Steps p.tables e below (T12.setTop (mkF m 24 #[.val (.int p1), .val (.int (p1 &&& (127 : Int32)).toUInt32.toUInt16.toUInt32.toInt32)] [(.int (p1 &&& (127 : Int32)).toUInt32.toUInt16.toUInt32.toInt32), (.int (0 : Int32)), (.ref b12), (.ref b12), (.ref b8), (.ref b8)])) tgt → Steps p.tables e below (s₁.setTop (entryFrame m #[(.int p1)] 2)) tgt := by
      intro tgt kk
      refine pre11 tgt ?_
      refine st12 _ ?_
      show Steps p.tables e below (T12.setTop (mkF m 21 #[.val (.int p1), .val (.int (p1 &&& (127 : Int32)).toUInt32.toUInt16.toUInt32.toInt32)] [(.ref b12), (.ref b8), (.ref b8)])) _
      refine XS.dup X12.here hx rfl (hb hby d2_21) rfl rfl ?_
      show Steps p.tables e below (T12.setTop (mkF m 22 #[.val (.int p1), .val (.int (p1 &&& (127 : Int32)).toUInt32.toUInt16.toUInt32.toInt32)] [(.ref b12), (.ref b12), (.ref b8), (.ref b8)])) _
      refine XS.iconst X12.here hx rfl (hb hby d2_22) ?_
      show Steps p.tables e below (T12.setTop (mkF m 23 #[.val (.int p1), .val (.int (p1 &&& (127 : Int32)).toUInt32.toUInt16.toUInt32.toInt32)] [(.int (0 : Int32)), (.ref b12), (.ref b12), (.ref b8), (.ref b8)])) _
      refine XS.iloadN X12.here hx rfl (hb hby d2_23) rfl ?_
      show Steps p.tables e below (T12.setTop (mkF m 24 #[.val (.int p1), .val (.int (p1 &&& (127 : Int32)).toUInt32.toUInt16.toUInt32.toInt32)] [(.int (p1 &&& (127 : Int32)).toUInt32.toUInt16.toUInt32.toInt32), (.int (0 : Int32)), (.ref b12), (.ref b12), (.ref b8), (.ref b8)])) _
      exact kk
    obtain ⟨cl17, Ar17, aq17, aS17, aN17, aH17, aG17⟩ := id V_b12
    have hin18 : ¬ ((0 : Int32) < 0 ∨ cl17.slots.size ≤ ((0 : Int32)).toNatClampNeg) := inb_of aS17 ⟨by decide, by decide⟩
    obtain ⟨T18, h18, X18, e18, W18, st18⟩ := stC X12 hx hZ e12 Ar17 (j := (0 : Int32)) hin18 (g := (mkF m 24 #[.val (.int p1), .val (.int (p1 &&& (127 : Int32)).toUInt32.toUInt16.toUInt32.toInt32)] [(.int (p1 &&& (127 : Int32)).toUInt32.toUInt16.toUInt32.toInt32), (.int (0 : Int32)), (.ref b12), (.ref b12), (.ref b8), (.ref b8)])) rfl rfl (hb hby d2_24)
    have N18 := Fr.snoc X18 N0 gn14
    have Vq18 : Arv Z h18 b12 k12 .char (2 : Int32) [(.int (nar .char (p1 &&& (127 : Int32)).toUInt32.toUInt16.toUInt32.toInt32)), (.int (0 : Int32))] (.int (0 : Int32)) := Arv.set Ar17 aq17 aS17 aN17 aH17 aG17 (fits_nar_char _) W18 0 rfl (Nat.le_of_ble_eq_true rfl)
    have S_CS : Sta Z h18 "java/lang/String" "COMPACT_STRINGS" "Z" (.int z0) := S_CS.wr W18
    have E_b8 : Exa Z h18 b8 "java/lang/String" := E_b8.wr W18
    have F_value_b8 : Fld Z h18 b8 "java/lang/String" "value" "[B" .null := F_value_b8.other W18 (Or.inl ne13)
    have F_coder_b8 : Fld Z h18 b8 "java/lang/String" "coder" "B" (.int (0 : Int32)) := F_coder_b8.other W18 (Or.inl ne13)
    have Zs19 : n0 ≤ h18.size := Nat.le_trans Zs15 (Keep.of_wr W18).1
    have KC19 : Keep h0 h18 [] := KC15.wr W18 (Or.inr sz14)
    have V_b12 := Vq18
    have pre20 : ∀ tgt, Steps p.tables e below (T18.setTop (mkF m 29 #[.val (.int p1), .val (.int (p1 &&& (127 : Int32)).toUInt32.toUInt16.toUInt32.toInt32)] [(.int (97 : Int32)), (.int (1 : Int32)), (.ref b12), (.ref b12), (.ref b8), (.ref b8)])) tgt → Steps p.tables e below (s₁.setTop (entryFrame m #[(.int p1)] 2)) tgt := by
      intro tgt kk
      refine pre16 tgt ?_
      refine st18 _ ?_
      show Steps p.tables e below (T18.setTop (mkF m 25 #[.val (.int p1), .val (.int (p1 &&& (127 : Int32)).toUInt32.toUInt16.toUInt32.toInt32)] [(.ref b12), (.ref b8), (.ref b8)])) _
      refine XS.dup X18.here hx rfl (hb hby d2_25) rfl rfl ?_
      show Steps p.tables e below (T18.setTop (mkF m 26 #[.val (.int p1), .val (.int (p1 &&& (127 : Int32)).toUInt32.toUInt16.toUInt32.toInt32)] [(.ref b12), (.ref b12), (.ref b8), (.ref b8)])) _
      refine XS.iconst X18.here hx rfl (hb hby d2_26) ?_
      show Steps p.tables e below (T18.setTop (mkF m 27 #[.val (.int p1), .val (.int (p1 &&& (127 : Int32)).toUInt32.toUInt16.toUInt32.toInt32)] [(.int (1 : Int32)), (.ref b12), (.ref b12), (.ref b8), (.ref b8)])) _
      refine XS.bipush X18.here hx rfl (hb hby d2_27) ?_
      show Steps p.tables e below (T18.setTop (mkF m 29 #[.val (.int p1), .val (.int (p1 &&& (127 : Int32)).toUInt32.toUInt16.toUInt32.toInt32)] [(.int (97 : Int32)), (.int (1 : Int32)), (.ref b12), (.ref b12), (.ref b8), (.ref b8)])) _
      exact kk
    obtain ⟨cl21, Ar21, aq21, aS21, aN21, aH21, aG21⟩ := id V_b12
    have hin22 : ¬ ((1 : Int32) < 0 ∨ cl21.slots.size ≤ ((1 : Int32)).toNatClampNeg) := inb_of aS21 ⟨by decide, by decide⟩
    obtain ⟨T22, h22, X22, e22, W22, st22⟩ := stC X18 hx hZ e18 Ar21 (j := (1 : Int32)) hin22 (g := (mkF m 29 #[.val (.int p1), .val (.int (p1 &&& (127 : Int32)).toUInt32.toUInt16.toUInt32.toInt32)] [(.int (97 : Int32)), (.int (1 : Int32)), (.ref b12), (.ref b12), (.ref b8), (.ref b8)])) rfl rfl (hb hby d2_29)
    have N22 := Fr.snoc X22 N18 gn14
    have Vq22 : Arv Z h22 b12 k12 .char (2 : Int32) [(.int (nar .char (p1 &&& (127 : Int32)).toUInt32.toUInt16.toUInt32.toInt32)), (.int (nar .char (97 : Int32)))] (.int (0 : Int32)) := Arv.set Ar21 aq21 aS21 aN21 aH21 aG21 (fits_nar_char _) W22 1 rfl (Nat.le_of_ble_eq_true rfl)
    have S_CS : Sta Z h22 "java/lang/String" "COMPACT_STRINGS" "Z" (.int z0) := S_CS.wr W22
    have E_b8 : Exa Z h22 b8 "java/lang/String" := E_b8.wr W22
    have F_value_b8 : Fld Z h22 b8 "java/lang/String" "value" "[B" .null := F_value_b8.other W22 (Or.inl ne13)
    have F_coder_b8 : Fld Z h22 b8 "java/lang/String" "coder" "B" (.int (0 : Int32)) := F_coder_b8.other W22 (Or.inl ne13)
    have Zs23 : n0 ≤ h22.size := Nat.le_trans Zs19 (Keep.of_wr W22).1
    have KC23 : Keep h0 h22 [] := KC19.wr W22 (Or.inr sz14)
    have V_b12 := Vq22
    have pre24 : ∀ tgt, Steps p.tables e below (T22.setTop (mkF m 30 #[.val (.int p1), .val (.int (p1 &&& (127 : Int32)).toUInt32.toUInt16.toUInt32.toInt32)] [(.ref b12), (.ref b8), (.ref b8)])) tgt → Steps p.tables e below (s₁.setTop (entryFrame m #[(.int p1)] 2)) tgt := by
      intro tgt kk
      refine pre20 tgt ?_
      refine st22 _ ?_
      show Steps p.tables e below (T22.setTop (mkF m 30 #[.val (.int p1), .val (.int (p1 &&& (127 : Int32)).toUInt32.toUInt16.toUInt32.toInt32)] [(.ref b12), (.ref b8), (.ref b8)])) _
      exact kk
    have hwv25 : ∀ d ∈ StrChars.Road.words, d.before a0 Z = true := fun d hd => hw d ((by decide +kernel : ∀ d ∈ StrChars.Road.words, d ∈ tables_1) d hd)
    have lt26_0 := E_b8.lt
    have lt26_1 := V_b12.lt
    obtain ⟨_, _, ⟨T27, L27, k27, n27⟩, -, X27, ⟨Lc27, hQ27, l27, y27, z27⟩, st27⟩ := X22.specialBack hx (y := (⟨"java/lang/String", "<init>", "([C)V"⟩ : MethodName)) rfl hown (mvT hZ (hw _ (List.mem_of_getElem? (i := 133) rfl))) (mvT hZ (hw _ (List.mem_of_getElem? (i := 134) rfl))) (mvT hZ (hw _ (List.mem_of_getElem? (i := 135) rfl))) (by decide) (StrChars.Road.backV (W := 1) hZ hwv25 (kI := 4) (hw _ (List.mem_of_getElem? (i := 18) rfl)) (cs := [(nar .char (p1 &&& (127 : Int32)).toUInt32.toUInt16.toUInt32.toInt32), (nar .char (97 : Int32))]) (bs := ([(nar .char (p1 &&& (127 : Int32)).toUInt32.toUInt16.toUInt32.toInt32), (nar .char (97 : Int32))] : List Int32).map (fun c => c.toInt8.toInt32)) (n := 2) (n0 := n0) gn9 Zs23 E_b8 F_value_b8 F_coder_b8 V_b12 S_CS hz rfl rfl (by decide) (by decide) (own_pS (own_c127 p1) (own_pS (by decide) own_p0)) rfl (by decide) (by decide)) (g := (mkF m 30 #[.val (.int p1), .val (.int (p1 &&& (127 : Int32)).toUInt32.toUInt16.toUInt32.toInt32)] [(.ref b12), (.ref b8), (.ref b8)])) rfl (by rw [hml]; rfl) (Steps.refl _) (a := b8) (argsL := [(.ref b12)]) (rest := [(.ref b8)]) (lenOf pd___C_V rfl) rfl (by show 2 * 0 + _ ≤ _; exact Nat.le_of_eq rfl) (hb hby d2_30) (fun _ _ => ⟨rfl, e22, (by decide : 2 + 1 ≤ _), (by decide : 6 + 2 ≤ _)⟩)
    dsimp only [Pt.U, Pt.locs, Pt.cells, Pt.slots] at X27 l27 y27 z27 st27 hQ27
    subst l27 y27 z27
    obtain ⟨rfl, N27q, K27, -, Qc27, tt27, kk27, gt27, st_27, -, Qv27, Qa27⟩ := hQ27
    have N27 := Fr.app N22 N27q
    have pl29 := own_plain_Exa E_b8
    have S_CS : Sta Z T27.heap "java/lang/String" "COMPACT_STRINGS" "Z" (.int z0) := own_sta_keep S_CS K27 (allS pl29 all0)
    have E_b8 : Exa Z T27.heap b8 "java/lang/String" := E_b8.keep K27
    have V_b12 : Arv Z T27.heap b12 k12 .char (2 : Int32) [(.int (nar .char (p1 &&& (127 : Int32)).toUInt32.toUInt16.toUInt32.toInt32)), (.int (nar .char (97 : Int32)))] (.int (0 : Int32)) := V_b12.keep K27 (ninS (Ne.symm ne13) nin0)
    have Zs28 : n0 ≤ T27.heap.size := Nat.le_trans Zs23 K27.1
    have KC28 : Keep h0 T27.heap [] := KC23.trans K27 (allS (Or.inr sz9) all0)
    have net27_lt26_0 : b8 ≠ tt27 := Nat.ne_of_lt (Nat.lt_of_lt_of_le lt26_0 st_27)
    have net27_lt26_1 : b12 ≠ tt27 := Nat.ne_of_lt (Nat.lt_of_lt_of_le lt26_1 st_27)
    have szt27 : h0.size ≤ tt27 := Nat.le_trans KC23.1 st_27
    have Fv_b8 : Fld Z T27.heap b8 "java/lang/String" "value" "[B" (.ref tt27) := Qv27
    have Fc_b8 : Fld Z T27.heap b8 "java/lang/String" "coder" "B" (.int (0 : Int32)) := Qc27
    have V_b8 : Arv Z T27.heap tt27 kk27 .byte (2 : Int32) ((([(nar .char (p1 &&& (127 : Int32)).toUInt32.toUInt16.toUInt32.toInt32), (nar .char (97 : Int32))] : List Int32).map (fun c => c.toInt8.toInt32)).map Value.int) (.int (0 : Int32)) := Qa27
    obtain ⟨fs, hr, hrun, hended, hW, hsame⟩ := X27.leave (v := some (.ref b8)) (fun h => by rw [Bd.returns] at h; cases h)
    refine ⟨_, _, pre24 _ ?_, hrun, hended, _, _, rfl, ?_, ⟨_, rfl⟩, hW, hsame.mono (by decide) (by decide)⟩
    · skip
      refine st27.trans ?_
      show Steps p.tables e below (T27.setTop (mkF m 33 #[.val (.int p1), .val (.int (p1 &&& (127 : Int32)).toUInt32.toUInt16.toUInt32.toInt32)] [(.ref b8)])) _
      exact retOut X27 hx Bd.returns rfl (Or.inr (Or.inr (Or.inr (Or.inr ⟨rfl, rfl, rfl⟩)))) (hb hby d2_33) hr
    · show QStr Z p1 z0 h0 n0 _ T27.heap _
      have eq : own_sv p1 = [(nar .char (p1 &&& (127 : Int32)).toUInt32.toUInt16.toUInt32.toInt32), (nar .char (97 : Int32))] := by unfold own_sv; rw [if_neg hc11_2]
      refine ⟨b8, tt27, kk27, rfl, N27, KC28, gn9, sz9, gt27, szt27, E_b8, Fv_b8, Fc_b8, ?_⟩
      rw [eq]; exact V_b8
theorem d16_0 : decode jdk_116_method_1_code 0 = .ok (.iload_n 1, 1) := by decide +kernel
theorem d16_1 : decode jdk_116_method_1_code 1 = .ok (.i2c, 1) := by decide +kernel
theorem d16_2 : decode jdk_116_method_1_code 2 = .ok (.istore_n 2, 1) := by decide +kernel
theorem d16_3 : decode jdk_116_method_1_code 3 = .ok (.getstatic 1, 3) := by decide +kernel
theorem d16_6 : decode jdk_116_method_1_code 6 = .ok (.iload_n 2, 1) := by decide +kernel
theorem d16_7 : decode jdk_116_method_1_code 7 = .ok (.iaload, 1) := by decide +kernel
theorem d16_8 : decode jdk_116_method_1_code 8 = .ok (.istore_n 3, 1) := by decide +kernel
theorem d16_9 : decode jdk_116_method_1_code 9 = .ok (.iload_n 3, 1) := by decide +kernel
theorem d16_10 : decode jdk_116_method_1_code 10 = .ok (.ireturn, 1) := by decide +kernel
theorem pn_16 : plainName "java/lang/CharacterDataLatin1" = true := by first | (simp [plainName, overriddenIn]; done) | decide +kernel
theorem ef_rmGP (m : MethodId) (x0 : Addr) (x1 : Int32) : entryFrame m #[(.ref x0), (.int x1)] 4 = mkF m 0 #[.val (.ref x0), .val (.int x1), .unset, .unset] [] := by first | (simp [entryFrame, mkF, argsToLocals, Value.category]; done) | rfl
def QGP (Z : State) (a : Addr) (ch : Int32) (aA : Addr) (clA : Cell) (h0 : Heap) (n0 : Nat) (v : Option Value) (h : Heap) (L : List Loc) : Prop := v = some (.int (atv clA ch)) ∧ Fr n0 L ∧ h = h0
set_option maxRecDepth 65536 in
set_option maxHeartbeats 40000000 in
theorem rmGP (l : Launch) (Z : State) (a0 : Array Value) (hw : ∀ d ∈ tables_1, d.before a0 Z = true) (ws : List Jvm.Cond) (a : Addr) (ch : Int32) (aA : Addr) (clA : Cell) (h0 : Heap) (n0 : Nat) (Z0 : n0 ≤ h0.size) (S_A : Sta Z h0 "java/lang/CharacterDataLatin1" "A" "[I" (.ref aA)) (Tb : Tab Z h0 aA clA .int (256 : Int32)) (hr0 : ¬ ch < 0 ∧ ch < (256 : Int32)) :
    MetFree l (⟨"java/lang/CharacterDataLatin1", "getProperties", "(I)I"⟩ : MethodName) (head1 (Jvm.Cond.code (⟨"java/lang/CharacterDataLatin1", "getProperties", "(I)I"⟩ : MethodName) jdk_116_method_1_code 4 (some .int) :: ws) ({ frames := 0, cells := 0, slots := 0, locals := 0 } : Room)) (fun ar UU => ar = #[(.ref a), (.int ch)] ∧ Z.Warmed39 UU.vm ∧ UU.heap = h0) (fun _ _ _ _ _ => True) (fun _ UU oo UU' => ∃ vv LL, oo = .returned vv ∧ QGP Z a ch aA clA h0 n0 vv UU'.heap LL ∧ FrameEnd UU oo UU' LL ({ frames := 0, cells := 0, slots := 0, locals := 0 } : Room).cells ({ frames := 0, cells := 0, slots := 0, locals := 0 } : Room).slots) := by
  refine MetFree.of_bodySF (plainFor_of_name pn_16) hisR ?_
  intro p e s m args below meth c s₁ Bd hml0 hP hK
  obtain ⟨rfl, hZ, hh⟩ := hP
  have hx := Bd.exec
  have hby := Bd.bytes
  have hml : c.maxLocals = 4 := hml0
  have hown : s.vm.findClass "java/lang/CharacterDataLatin1" = some m.cls := findClass_of_methodNamed Bd.named
  have hnm := (name_of_methodNamed Bd.named Bd.method).1
  have X0 : Stand p l e ({ frames := 0, cells := 0, slots := 0, locals := 0 } : Room) s m #[(.ref a), (.int ch)] below meth c s₁ [] 0 0 := Stand.of_body Bd
  have e0 : s₁.heap = h0 := by rw [← hh, Bd.state]; rfl
  have N0 := Fr.nil n0
  have KC0 : Keep h0 h0 [] := Keep.refl h0 []
  have pre0 : ∀ tgt, Steps p.tables e below (s₁.setTop (mkF m 0 #[.val (.ref a), .val (.int ch), .unset, .unset] [])) tgt → Steps p.tables e below (s₁.setTop (entryFrame m #[(.ref a), (.int ch)] 4)) tgt := fun tgt kk => castTop (ef_rmGP m (a) (ch)) kk
  have pre1 : ∀ tgt, Steps p.tables e below (s₁.setTop (mkF m 3 #[.val (.ref a), .val (.int ch), .val (.int ch.toUInt32.toUInt16.toUInt32.toInt32), .unset] [])) tgt → Steps p.tables e below (s₁.setTop (entryFrame m #[(.ref a), (.int ch)] 4)) tgt := by
    intro tgt kk
    refine pre0 tgt ?_
    refine XS.iloadN X0.here hx rfl (hb hby d16_0) rfl ?_
    show Steps p.tables e below (s₁.setTop (mkF m 1 #[.val (.ref a), .val (.int ch), .unset, .unset] [(.int ch)])) _
    refine XS.i2c X0.here hx rfl (hb hby d16_1) rfl ?_
    show Steps p.tables e below (s₁.setTop (mkF m 2 #[.val (.ref a), .val (.int ch), .unset, .unset] [(.int ch.toUInt32.toUInt16.toUInt32.toInt32)])) _
    refine XS.istoreN X0.here hx rfl (hb hby d16_2) rfl (l' := #[.val (.ref a), .val (.int ch), .val (.int ch.toUInt32.toUInt16.toUInt32.toInt32), .unset]) rfl ?_
    show Steps p.tables e below (s₁.setTop (mkF m 3 #[.val (.ref a), .val (.int ch), .val (.int ch.toUInt32.toUInt16.toUInt32.toInt32), .unset] [])) _
    exact kk
  obtain ⟨T2, X2, e2, st2⟩ := getS X0 hx hZ hown (host := "") (hw _ (List.mem_of_getElem? (i := 80) rfl)) Via.refl e0 S_A (g := (mkF m 3 #[.val (.ref a), .val (.int ch), .val (.int ch.toUInt32.toUInt16.toUInt32.toInt32), .unset] [])) rfl (hb hby d16_3)
  have pre3 : ∀ tgt, Steps p.tables e below (T2.setTop (mkF m 7 #[.val (.ref a), .val (.int ch), .val (.int ch.toUInt32.toUInt16.toUInt32.toInt32), .unset] [(.int ch.toUInt32.toUInt16.toUInt32.toInt32), (.ref aA)])) tgt → Steps p.tables e below (s₁.setTop (entryFrame m #[(.ref a), (.int ch)] 4)) tgt := by
    intro tgt kk
    refine pre1 tgt ?_
    refine st2 _ ?_
    show Steps p.tables e below (T2.setTop (mkF m 6 #[.val (.ref a), .val (.int ch), .val (.int ch.toUInt32.toUInt16.toUInt32.toInt32), .unset] [(.ref aA)])) _
    refine XS.iloadN X2.here hx rfl (hb hby d16_6) rfl ?_
    show Steps p.tables e below (T2.setTop (mkF m 7 #[.val (.ref a), .val (.int ch), .val (.int ch.toUInt32.toUInt16.toUInt32.toInt32), .unset] [(.int ch.toUInt32.toUInt16.toUInt32.toInt32), (.ref aA)])) _
    exact kk
  have hin : ¬ (ch.toUInt32.toUInt16.toUInt32.toInt32 < 0 ∨ clA.slots.size ≤ (ch.toUInt32.toUInt16.toUInt32.toInt32).toNatClampNeg) := inb_of Tb.2.1 (by rw [own_i2c hr0]; exact hr0)
  have hat := Tb.2.2.2 ch.toUInt32.toUInt16.toUInt32.toInt32 hin
  obtain ⟨fs, hr, hrun, hended, hW, hsame⟩ := X2.leave (v := some (.int (atv clA ch.toUInt32.toUInt16.toUInt32.toInt32))) (fun h => by rw [Bd.returns] at h; cases h)
  refine ⟨_, _, pre3 _ ?_, hrun, hended, _, _, rfl, ?_, ⟨_, rfl⟩, hW, hsame.mono (by decide) (by decide)⟩
  · skip
    refine X2.iaload hx (j := ch.toUInt32.toUInt16.toUInt32.toInt32) (v := (.int (atv clA ch.toUInt32.toUInt16.toUInt32.toInt32))) (by rw [e2]; exact Tb.1.1) (State.isArrayOf_alike hZ.alike Tb.1.2.1) Tb.1.2.2 hin hat (g := (mkF m 7 #[.val (.ref a), .val (.int ch), .val (.int ch.toUInt32.toUInt16.toUInt32.toInt32), .unset] [(.int ch.toUInt32.toUInt16.toUInt32.toInt32), (.ref aA)])) rfl rfl (hb hby d16_7) _ ?_
    show Steps p.tables e below (T2.setTop (mkF m 8 #[.val (.ref a), .val (.int ch), .val (.int ch.toUInt32.toUInt16.toUInt32.toInt32), .unset] [(.int (atv clA ch.toUInt32.toUInt16.toUInt32.toInt32))])) _
    refine XS.istoreN X2.here hx rfl (hb hby d16_8) rfl (l' := #[.val (.ref a), .val (.int ch), .val (.int ch.toUInt32.toUInt16.toUInt32.toInt32), .val (.int (atv clA ch.toUInt32.toUInt16.toUInt32.toInt32))]) rfl ?_
    show Steps p.tables e below (T2.setTop (mkF m 9 #[.val (.ref a), .val (.int ch), .val (.int ch.toUInt32.toUInt16.toUInt32.toInt32), .val (.int (atv clA ch.toUInt32.toUInt16.toUInt32.toInt32))] [])) _
    refine XS.iloadN X2.here hx rfl (hb hby d16_9) rfl ?_
    show Steps p.tables e below (T2.setTop (mkF m 10 #[.val (.ref a), .val (.int ch), .val (.int ch.toUInt32.toUInt16.toUInt32.toInt32), .val (.int (atv clA ch.toUInt32.toUInt16.toUInt32.toInt32))] [(.int (atv clA ch.toUInt32.toUInt16.toUInt32.toInt32))])) _
    exact retI X2 hx Bd.returns (hb hby d16_10) hr
  · show QGP Z a ch aA clA h0 n0 _ T2.heap _
    rw [e2]
    exact ⟨by rw [own_i2c hr0], N0, rfl⟩
theorem d15_0 : decode jdk_116_method_26_code 0 = .ok (.aload_n 0, 1) := by decide +kernel
theorem d15_1 : decode jdk_116_method_26_code 1 = .ok (.iload_n 1, 1) := by decide +kernel
theorem d15_2 : decode jdk_116_method_26_code 2 = .ok (.invokevirtual 15, 3) := by decide +kernel
theorem d15_5 : decode jdk_116_method_26_code 5 = .ok (.istore_n 2, 1) := by decide +kernel
theorem d15_6 : decode jdk_116_method_26_code 6 = .ok (.iload_n 2, 1) := by decide +kernel
theorem d15_7 : decode jdk_116_method_26_code 7 = .ok (.sipush 28672, 3) := by decide +kernel
theorem d15_10 : decode jdk_116_method_26_code 10 = .ok (.iand, 1) := by decide +kernel
theorem d15_11 : decode jdk_116_method_26_code 11 = .ok (.sipush 16384, 3) := by decide +kernel
theorem d15_14 : decode jdk_116_method_26_code 14 = .ok (.if_icmp .ne 7, 3) := by decide +kernel
theorem d15_17 : decode jdk_116_method_26_code 17 = .ok (.iconst 1, 1) := by decide +kernel
theorem d15_18 : decode jdk_116_method_26_code 18 = .ok (.goto 4, 3) := by decide +kernel
theorem d15_21 : decode jdk_116_method_26_code 21 = .ok (.iconst 0, 1) := by decide +kernel
theorem d15_22 : decode jdk_116_method_26_code 22 = .ok (.ireturn, 1) := by decide +kernel
theorem pn_15 : plainName "java/lang/CharacterDataLatin1" = true := by first | (simp [plainName, overriddenIn]; done) | decide +kernel
theorem pd__I_I : parseMethodDescriptor "(I)I" = some ⟨[.int], some .int⟩ := by decide +kernel
theorem ef_rmW (m : MethodId) (x0 : Addr) (x1 : Int32) : entryFrame m #[(.ref x0), (.int x1)] 3 = mkF m 0 #[.val (.ref x0), .val (.int x1), .unset] [] := by first | (simp [entryFrame, mkF, argsToLocals, Value.category]; done) | rfl
def QW (Z : State) (a : Addr) (ch : Int32) (aA : Addr) (clA : Cell) (h0 : Heap) (n0 : Nat) (v : Option Value) (h : Heap) (L : List Loc) : Prop := v = some (.int (bI (((atv clA ch) &&& (28672 : Int32)) = (16384 : Int32)))) ∧ Fr n0 L ∧ h = h0
set_option maxRecDepth 65536 in
set_option maxHeartbeats 40000000 in
theorem rmW (l : Launch) (Z : State) (a0 : Array Value) (hw : ∀ d ∈ tables_1, d.before a0 Z = true) (ws : List Jvm.Cond) (a : Addr) (ch : Int32) (aA : Addr) (clA : Cell) (h0 : Heap) (n0 : Nat) (Z0 : n0 ≤ h0.size) (E_a : Exa Z h0 a "java/lang/CharacterDataLatin1") (S_A : Sta Z h0 "java/lang/CharacterDataLatin1" "A" "[I" (.ref aA)) (Tb : Tab Z h0 aA clA .int (256 : Int32)) (hr0 : ¬ ch < 0 ∧ ch < (256 : Int32)) :
    MetFree l (⟨"java/lang/CharacterDataLatin1", "isWhitespace", "(I)Z"⟩ : MethodName) (head1 (Jvm.Cond.code (⟨"java/lang/CharacterDataLatin1", "isWhitespace", "(I)Z"⟩ : MethodName) jdk_116_method_26_code 3 (some .boolean) :: ws) ({ frames := 1, cells := 0, slots := 0, locals := 15 } : Room)) (fun ar UU => ar = #[(.ref a), (.int ch)] ∧ Z.Warmed39 UU.vm ∧ UU.heap = h0) (fun _ _ _ _ _ => True) (fun _ UU oo UU' => ∃ vv LL, oo = .returned vv ∧ QW Z a ch aA clA h0 n0 vv UU'.heap LL ∧ FrameEnd UU oo UU' LL ({ frames := 1, cells := 0, slots := 0, locals := 15 } : Room).cells ({ frames := 1, cells := 0, slots := 0, locals := 15 } : Room).slots) := by
  refine MetFree.of_bodySF (plainFor_of_name pn_15) hisR ?_
  intro p e s m args below meth c s₁ Bd hml0 hP hK
  obtain ⟨rfl, hZ, hh⟩ := hP
  have hx := Bd.exec
  have hby := Bd.bytes
  have hml : c.maxLocals = 3 := hml0
  have hown : s.vm.findClass "java/lang/CharacterDataLatin1" = some m.cls := findClass_of_methodNamed Bd.named
  have hnm := (name_of_methodNamed Bd.named Bd.method).1
  have X0 : Stand p l e ({ frames := 1, cells := 0, slots := 0, locals := 15 } : Room) s m #[(.ref a), (.int ch)] below meth c s₁ [] 0 0 := Stand.of_body Bd
  have e0 : s₁.heap = h0 := by rw [← hh, Bd.state]; rfl
  have N0 := Fr.nil n0
  have KC0 : Keep h0 h0 [] := Keep.refl h0 []
  have pre0 : ∀ tgt, Steps p.tables e below (s₁.setTop (mkF m 0 #[.val (.ref a), .val (.int ch), .unset] [])) tgt → Steps p.tables e below (s₁.setTop (entryFrame m #[(.ref a), (.int ch)] 3)) tgt := fun tgt kk => castTop (ef_rmW m (a) (ch)) kk
  have pre1 : ∀ tgt, Steps p.tables e below (s₁.setTop (mkF m 2 #[.val (.ref a), .val (.int ch), .unset] [(.int ch), (.ref a)])) tgt → Steps p.tables e below (s₁.setTop (entryFrame m #[(.ref a), (.int ch)] 3)) tgt := by
    intro tgt kk
    refine pre0 tgt ?_
    refine XS.aloadN X0.here hx rfl (hb hby d15_0) rfl rfl ?_
    show Steps p.tables e below (s₁.setTop (mkF m 1 #[.val (.ref a), .val (.int ch), .unset] [(.ref a)])) _
    refine XS.iloadN X0.here hx rfl (hb hby d15_1) rfl ?_
    show Steps p.tables e below (s₁.setTop (mkF m 2 #[.val (.ref a), .val (.int ch), .unset] [(.int ch), (.ref a)])) _
    exact kk
  obtain ⟨cq2, kq2, q2a, q2b, q2c⟩ := isOf hZ e0 E_a
  obtain ⟨_, _, ⟨T2, L2, k2, n2⟩, -, X2, ⟨Lc2, hQ2, l2, y2, z2⟩, st2⟩ := X0.virtualBack hx (y := (⟨"java/lang/CharacterDataLatin1", "getProperties", "(I)I"⟩ : MethodName)) (z := (⟨"java/lang/CharacterDataLatin1", "getProperties", "(I)I"⟩ : MethodName)) hown (mvT hZ (hw _ (List.mem_of_getElem? (i := 75) rfl))) (mvT hZ (hw _ (List.mem_of_getElem? (i := 76) rfl))) (notFace_of_selects (args := #[]) (mvT hZ (hw _ (List.mem_of_getElem? (i := 78) rfl)))) (mvT hZ (hw _ (List.mem_of_getElem? (i := 78) rfl))) (mvT hZ (hw _ (List.mem_of_getElem? (i := 77) rfl))) (by decide) (backOf (W := 0) (rmGP l Z a0 hw [] a (ch) aA clA h0 n0 Z0 S_A Tb hr0) hZ (hw _ (List.mem_of_getElem? (i := 79) rfl)) (hw _ (List.mem_of_getElem? (i := 69) rfl)) (by decide) (by decide)) q2a q2c (g := (mkF m 2 #[.val (.ref a), .val (.int ch), .unset] [(.int ch), (.ref a)])) rfl (by rw [hml]; rfl) (Steps.refl _) (argsL := [(.int ch)]) (rest := []) (lenOf pd__I_I rfl) rfl (by show 2 * 0 + _ ≤ _; exact Nat.le_of_eq rfl) (hb hby d15_2) (fun _ _ => ⟨rfl, e0, (by decide : 0 + 0 ≤ _), (by decide : 0 + 0 ≤ _)⟩)
  dsimp only [Pt.U, Pt.locs, Pt.cells, Pt.slots] at X2 l2 y2 z2 st2 hQ2
  subst l2 y2 z2
  obtain ⟨rfl, N2q, hh2⟩ := hQ2
  have N2 := Fr.app N0 N2q
  have pre3 : ∀ tgt, Steps p.tables e below (T2.setTop (mkF m 14 #[.val (.ref a), .val (.int ch), .val (.int (atv clA ch))] [(.int (16384 : Int32)), (.int ((atv clA ch) &&& (28672 : Int32)))])) tgt → Steps p.tables e below (s₁.setTop (entryFrame m #[(.ref a), (.int ch)] 3)) tgt := by
    intro tgt kk
    refine pre1 tgt ?_
    refine st2.trans ?_
    show Steps p.tables e below (T2.setTop (mkF m 5 #[.val (.ref a), .val (.int ch), .unset] [(.int (atv clA ch))])) _
    refine XS.istoreN X2.here hx rfl (hb hby d15_5) rfl (l' := #[.val (.ref a), .val (.int ch), .val (.int (atv clA ch))]) rfl ?_
    show Steps p.tables e below (T2.setTop (mkF m 6 #[.val (.ref a), .val (.int ch), .val (.int (atv clA ch))] [])) _
    refine XS.iloadN X2.here hx rfl (hb hby d15_6) rfl ?_
    show Steps p.tables e below (T2.setTop (mkF m 7 #[.val (.ref a), .val (.int ch), .val (.int (atv clA ch))] [(.int (atv clA ch))])) _
    refine XS.sipush X2.here hx rfl (hb hby d15_7) ?_
    show Steps p.tables e below (T2.setTop (mkF m 10 #[.val (.ref a), .val (.int ch), .val (.int (atv clA ch))] [(.int (28672 : Int32)), (.int (atv clA ch))])) _
    refine XS.iand X2.here hx rfl (hb hby d15_10) rfl ?_
    show Steps p.tables e below (T2.setTop (mkF m 11 #[.val (.ref a), .val (.int ch), .val (.int (atv clA ch))] [(.int ((atv clA ch) &&& (28672 : Int32)))])) _
    refine XS.sipush X2.here hx rfl (hb hby d15_11) ?_
    show Steps p.tables e below (T2.setTop (mkF m 14 #[.val (.ref a), .val (.int ch), .val (.int (atv clA ch))] [(.int (16384 : Int32)), (.int ((atv clA ch) &&& (28672 : Int32)))])) _
    exact kk
  obtain ⟨T5, lo5, X5, N5, e5, pre5⟩ : ∃ (T' : State) (lo : List Loc), Stand p l e ({ frames := 1, cells := 0, slots := 0, locals := 15 } : Room) s m #[(.ref a), (.int ch)] below meth c T' lo 0 0 ∧ Fr n0 lo ∧ T'.heap = h0 ∧ ∀ tgt, Steps p.tables e below (T'.setTop (mkF m 22 #[.val (.ref a), .val (.int ch), .val (.int (atv clA ch))] [(.int (bI (((atv clA ch) &&& (28672 : Int32)) = (16384 : Int32))))])) tgt → Steps p.tables e below (s₁.setTop (entryFrame m #[(.ref a), (.int ch)] 3)) tgt := by
    by_cases hc14_4 : ((atv clA ch) &&& (28672 : Int32)) = (16384 : Int32)
    · skip
      refine ⟨T2, _, X2, N2, hh2, fun tgt kk => ?_⟩
      have kq6 : ((.int (bI (((atv clA ch) &&& (28672 : Int32)) = (16384 : Int32)))) : Value) = (.int (1 : Int32)) := (congrArg Value.int (bI_t hc14_4))
      rw [kq6] at kk
      refine pre3 tgt ?_
      refine XS.icmpNo X2.here hx rfl (hb hby d15_14) rfl (XT.ii_ne_f hc14_4) ?_
      show Steps p.tables e below (T2.setTop (mkF m 17 #[.val (.ref a), .val (.int ch), .val (.int (atv clA ch))] [])) _
      refine XS.iconst X2.here hx rfl (hb hby d15_17) ?_
      show Steps p.tables e below (T2.setTop (mkF m 18 #[.val (.ref a), .val (.int ch), .val (.int (atv clA ch))] [(.int (1 : Int32))])) _
      refine XS.goto X2.here hx rfl (pc0 := 18) (pc' := 22) rfl (hb hby d15_18) (by decide) (by decide) ?_
      show Steps p.tables e below (T2.setTop (mkF m 22 #[.val (.ref a), .val (.int ch), .val (.int (atv clA ch))] [(.int (1 : Int32))])) _
      exact kk
    · skip
      refine ⟨T2, _, X2, N2, hh2, fun tgt kk => ?_⟩
      have kq7 : ((.int (bI (((atv clA ch) &&& (28672 : Int32)) = (16384 : Int32)))) : Value) = (.int (0 : Int32)) := (congrArg Value.int (bI_f hc14_4))
      rw [kq7] at kk
      refine pre3 tgt ?_
      refine XS.icmpYes X2.here hx rfl (pc0 := 14) (pc' := 21) rfl (hb hby d15_14) rfl (XT.ii_ne_t hc14_4) (by decide) (by decide) ?_
      show Steps p.tables e below (T2.setTop (mkF m 21 #[.val (.ref a), .val (.int ch), .val (.int (atv clA ch))] [])) _
      refine XS.iconst X2.here hx rfl (hb hby d15_21) ?_
      show Steps p.tables e below (T2.setTop (mkF m 22 #[.val (.ref a), .val (.int ch), .val (.int (atv clA ch))] [(.int (0 : Int32))])) _
      exact kk
  obtain ⟨fs, hr, hrun, hended, hW, hsame⟩ := X5.leave (v := some (.int (nar .boolean (bI (((atv clA ch) &&& (28672 : Int32)) = (16384 : Int32)))))) (fun h => by rw [Bd.returns] at h; cases h)
  refine ⟨_, _, pre5 _ ?_, hrun, hended, _, _, rfl, ?_, ⟨_, rfl⟩, hW, hsame.mono (by decide) (by decide)⟩
  · skip
    exact retN X5 hx (t := .boolean) Bd.returns (by simp) (hb hby d15_22) hr
  · show QW Z a ch aA clA h0 n0 _ T5.heap _
    rw [e5]
    exact ⟨bI_ret, N5, rfl⟩
theorem d14_0 : decode jdk_43_method_44_code 0 = .ok (.aload_n 0, 1) := by decide +kernel
theorem d14_1 : decode jdk_43_method_44_code 1 = .ok (.iload_n 1, 1) := by decide +kernel
theorem d14_2 : decode jdk_43_method_44_code 2 = .ok (.baload, 1) := by decide +kernel
theorem d14_3 : decode jdk_43_method_44_code 3 = .ok (.sipush 255, 3) := by decide +kernel
theorem d14_6 : decode jdk_43_method_44_code 6 = .ok (.iand, 1) := by decide +kernel
theorem d14_7 : decode jdk_43_method_44_code 7 = .ok (.i2c, 1) := by decide +kernel
theorem d14_8 : decode jdk_43_method_44_code 8 = .ok (.ireturn, 1) := by decide +kernel
theorem pn_14 : plainName "java/lang/StringLatin1" = true := by first | (simp [plainName, overriddenIn]; done) | decide +kernel
theorem ef_rmGC (m : MethodId) (x0 : Addr) (x1 : Int32) : entryFrame m #[(.ref x0), (.int x1)] 2 = mkF m 0 #[.val (.ref x0), .val (.int x1)] [] := by first | (simp [entryFrame, mkF, argsToLocals, Value.category]; done) | rfl
def QGC (Z : State) (t : Addr) (k : ClassId) (ch : Int32) (h0 : Heap) (n0 : Nat) (v : Option Value) (h : Heap) (L : List Loc) : Prop := v = some (.int ch) ∧ Fr n0 L ∧ h = h0
set_option maxRecDepth 65536 in
set_option maxHeartbeats 40000000 in
theorem rmGC (l : Launch) (Z : State) (a0 : Array Value) (hw : ∀ d ∈ tables_1, d.before a0 Z = true) (ws : List Jvm.Cond) (t : Addr) (k : ClassId) (ch : Int32) (h0 : Heap) (n0 : Nat) (Z0 : n0 ≤ h0.size) (V_t : Arv Z h0 t k .byte (1 : Int32) ((([ch] : List Int32).map (fun c => c.toInt8.toInt32)).map Value.int) (.int (0 : Int32))) (hp0 : ¬ ch < 0 ∧ ¬ (255 : Int32) < ch) :
    MetFree l (⟨"java/lang/StringLatin1", "getChar", "([BI)C"⟩ : MethodName) (head1 (Jvm.Cond.code (⟨"java/lang/StringLatin1", "getChar", "([BI)C"⟩ : MethodName) jdk_43_method_44_code 2 (some .char) :: ws) ({ frames := 0, cells := 0, slots := 0, locals := 0 } : Room)) (fun ar UU => ar = #[(.ref t), (.int (0 : Int32))] ∧ Z.Warmed39 UU.vm ∧ UU.heap = h0) (fun _ _ _ _ _ => True) (fun _ UU oo UU' => ∃ vv LL, oo = .returned vv ∧ QGC Z t k ch h0 n0 vv UU'.heap LL ∧ FrameEnd UU oo UU' LL ({ frames := 0, cells := 0, slots := 0, locals := 0 } : Room).cells ({ frames := 0, cells := 0, slots := 0, locals := 0 } : Room).slots) := by
  refine MetFree.of_bodySF (plainFor_of_name pn_14) hisR ?_
  intro p e s m args below meth c s₁ Bd hml0 hP hK
  obtain ⟨rfl, hZ, hh⟩ := hP
  have hx := Bd.exec
  have hby := Bd.bytes
  have hml : c.maxLocals = 2 := hml0
  have hown : s.vm.findClass "java/lang/StringLatin1" = some m.cls := findClass_of_methodNamed Bd.named
  have hnm := (name_of_methodNamed Bd.named Bd.method).1
  have X0 : Stand p l e ({ frames := 0, cells := 0, slots := 0, locals := 0 } : Room) s m #[(.ref t), (.int (0 : Int32))] below meth c s₁ [] 0 0 := Stand.of_body Bd
  have e0 : s₁.heap = h0 := by rw [← hh, Bd.state]; rfl
  have N0 := Fr.nil n0
  have KC0 : Keep h0 h0 [] := Keep.refl h0 []
  have pre0 : ∀ tgt, Steps p.tables e below (s₁.setTop (mkF m 0 #[.val (.ref t), .val (.int (0 : Int32))] [])) tgt → Steps p.tables e below (s₁.setTop (entryFrame m #[(.ref t), (.int (0 : Int32))] 2)) tgt := fun tgt kk => castTop (ef_rmGC m (t) ((0 : Int32))) kk
  have pre1 : ∀ tgt, Steps p.tables e below (s₁.setTop (mkF m 2 #[.val (.ref t), .val (.int (0 : Int32))] [(.int (0 : Int32)), (.ref t)])) tgt → Steps p.tables e below (s₁.setTop (entryFrame m #[(.ref t), (.int (0 : Int32))] 2)) tgt := by
    intro tgt kk
    refine pre0 tgt ?_
    refine XS.aloadN X0.here hx rfl (hb hby d14_0) rfl rfl ?_
    show Steps p.tables e below (s₁.setTop (mkF m 1 #[.val (.ref t), .val (.int (0 : Int32))] [(.ref t)])) _
    refine XS.iloadN X0.here hx rfl (hb hby d14_1) rfl ?_
    show Steps p.tables e below (s₁.setTop (mkF m 2 #[.val (.ref t), .val (.int (0 : Int32))] [(.int (0 : Int32)), (.ref t)])) _
    exact kk
  obtain ⟨cl2, Ar2, aq2, aS2, aN2, aH2, aG2⟩ := id V_t
  have hin3 : ¬ ((0 : Int32) < 0 ∨ cl2.slots.size ≤ ((0 : Int32)).toNatClampNeg) := inb_of aS2 ⟨by decide, by decide⟩
  have hat3 : cl2.slots[((0 : Int32)).toNatClampNeg]? = some (.int ch.toInt8.toInt32) := Has.at aH2 hin3 rfl
  obtain ⟨fs, hr, hrun, hended, hW, hsame⟩ := X0.leave (v := some (.int (nar .char (ch.toInt8.toInt32 &&& (255 : Int32)).toUInt32.toUInt16.toUInt32.toInt32))) (fun h => by rw [Bd.returns] at h; cases h)
  refine ⟨_, _, pre1 _ ?_, hrun, hended, _, _, rfl, ?_, ⟨_, rfl⟩, hW, hsame.mono (by decide) (by decide)⟩
  · skip
    refine X0.baloadBytes hx (j := (0 : Int32)) (v := (.int ch.toInt8.toInt32)) (by rw [e0]; exact Ar2.1) (State.isArrayOf_alike hZ.alike Ar2.2.1) Ar2.2.2 hin3 hat3 (g := (mkF m 2 #[.val (.ref t), .val (.int (0 : Int32))] [(.int (0 : Int32)), (.ref t)])) rfl rfl (hb hby d14_2) _ ?_
    show Steps p.tables e below (s₁.setTop (mkF m 3 #[.val (.ref t), .val (.int (0 : Int32))] [(.int ch.toInt8.toInt32)])) _
    refine XS.sipush X0.here hx rfl (hb hby d14_3) ?_
    show Steps p.tables e below (s₁.setTop (mkF m 6 #[.val (.ref t), .val (.int (0 : Int32))] [(.int (255 : Int32)), (.int ch.toInt8.toInt32)])) _
    refine XS.iand X0.here hx rfl (hb hby d14_6) rfl ?_
    show Steps p.tables e below (s₁.setTop (mkF m 7 #[.val (.ref t), .val (.int (0 : Int32))] [(.int (ch.toInt8.toInt32 &&& (255 : Int32)))])) _
    refine XS.i2c X0.here hx rfl (hb hby d14_7) rfl ?_
    show Steps p.tables e below (s₁.setTop (mkF m 8 #[.val (.ref t), .val (.int (0 : Int32))] [(.int (ch.toInt8.toInt32 &&& (255 : Int32)).toUInt32.toUInt16.toUInt32.toInt32)])) _
    exact retN X0 hx (t := .char) Bd.returns (by simp) (hb hby d14_8) hr
  · show QGC Z t k ch h0 n0 _ s₁.heap _
    rw [e0]
    exact ⟨by rw [own_char hp0], N0, rfl⟩
theorem d13_0 : decode jdk_43_method_37_code 0 = .ok (.aload_n 0, 1) := by decide +kernel
theorem d13_1 : decode jdk_43_method_37_code 1 = .ok (.arraylength, 1) := by decide +kernel
theorem d13_2 : decode jdk_43_method_37_code 2 = .ok (.istore_n 1, 1) := by decide +kernel
theorem d13_3 : decode jdk_43_method_37_code 3 = .ok (.iconst 0, 1) := by decide +kernel
theorem d13_4 : decode jdk_43_method_37_code 4 = .ok (.istore_n 2, 1) := by decide +kernel
theorem d13_5 : decode jdk_43_method_37_code 5 = .ok (.iload_n 2, 1) := by decide +kernel
theorem d13_6 : decode jdk_43_method_37_code 6 = .ok (.iload_n 1, 1) := by decide +kernel
theorem d13_7 : decode jdk_43_method_37_code 7 = .ok (.if_icmp .ge 40, 3) := by decide +kernel
theorem d13_10 : decode jdk_43_method_37_code 10 = .ok (.aload_n 0, 1) := by decide +kernel
theorem d13_11 : decode jdk_43_method_37_code 11 = .ok (.iload_n 2, 1) := by decide +kernel
theorem d13_12 : decode jdk_43_method_37_code 12 = .ok (.invokestatic 50, 3) := by decide +kernel
theorem d13_15 : decode jdk_43_method_37_code 15 = .ok (.istore_n 3, 1) := by decide +kernel
theorem d13_16 : decode jdk_43_method_37_code 16 = .ok (.iload_n 3, 1) := by decide +kernel
theorem d13_17 : decode jdk_43_method_37_code 17 = .ok (.bipush 32, 2) := by decide +kernel
theorem d13_19 : decode jdk_43_method_37_code 19 = .ok (.if_icmp .eq 22, 3) := by decide +kernel
theorem d13_22 : decode jdk_43_method_37_code 22 = .ok (.iload_n 3, 1) := by decide +kernel
theorem d13_23 : decode jdk_43_method_37_code 23 = .ok (.bipush 9, 2) := by decide +kernel
theorem d13_25 : decode jdk_43_method_37_code 25 = .ok (.if_icmp .eq 16, 3) := by decide +kernel
theorem d13_28 : decode jdk_43_method_37_code 28 = .ok (.getstatic 66, 3) := by decide +kernel
theorem d13_31 : decode jdk_43_method_37_code 31 = .ok (.iload_n 3, 1) := by decide +kernel
theorem d13_32 : decode jdk_43_method_37_code 32 = .ok (.invokevirtual 211, 3) := by decide +kernel
theorem d13_35 : decode jdk_43_method_37_code 35 = .ok (.ifCond .ne 6, 3) := by decide +kernel
theorem d13_38 : decode jdk_43_method_37_code 38 = .ok (.goto 9, 3) := by decide +kernel
theorem d13_47 : decode jdk_43_method_37_code 47 = .ok (.iload_n 2, 1) := by decide +kernel
theorem d13_48 : decode jdk_43_method_37_code 48 = .ok (.ireturn, 1) := by decide +kernel
theorem pn_13 : plainName "java/lang/StringLatin1" = true := by first | (simp [plainName, overriddenIn]; done) | decide +kernel
theorem pd___BI_C : parseMethodDescriptor "([BI)C" = some ⟨[(.array .byte), .int], some .char⟩ := by decide +kernel
theorem pd__I_Z : parseMethodDescriptor "(I)Z" = some ⟨[.int], some .boolean⟩ := by decide +kernel
theorem ef_rmIx (m : MethodId) (x0 : Addr) : entryFrame m #[(.ref x0)] 4 = mkF m 0 #[.val (.ref x0), .unset, .unset, .unset] [] := by first | (simp [entryFrame, mkF, argsToLocals, Value.category]; done) | rfl
def QIx (Z : State) (t : Addr) (k : ClassId) (ch : Int32) (aI : Addr) (aA : Addr) (clA : Cell) (h0 : Heap) (n0 : Nat) (v : Option Value) (h : Heap) (L : List Loc) : Prop := v = some (.int (0 : Int32)) ∧ Fr n0 L ∧ h = h0
set_option maxRecDepth 65536 in
set_option maxHeartbeats 40000000 in
theorem rmIx (l : Launch) (Z : State) (a0 : Array Value) (hw : ∀ d ∈ tables_1, d.before a0 Z = true) (ws : List Jvm.Cond) (t : Addr) (k : ClassId) (ch : Int32) (aI : Addr) (aA : Addr) (clA : Cell) (h0 : Heap) (n0 : Nat) (Z0 : n0 ≤ h0.size) (V_t : Arv Z h0 t k .byte (1 : Int32) ((([ch] : List Int32).map (fun c => c.toInt8.toInt32)).map Value.int) (.int (0 : Int32))) (S_A : Sta Z h0 "java/lang/CharacterDataLatin1" "A" "[I" (.ref aA)) (S_I : Sta Z h0 "java/lang/CharacterDataLatin1" "instance" "Ljava/lang/CharacterDataLatin1;" (.ref aI)) (E_I : Exa Z h0 aI "java/lang/CharacterDataLatin1") (Tb : Tab Z h0 aA clA .int (256 : Int32)) (hp0 : ¬ ch < 0 ∧ ¬ (255 : Int32) < ch) (hnb : ¬ (ch = (32 : Int32)) ∧ ¬ (ch = (9 : Int32)) ∧ ¬ (((atv clA ch) &&& (28672 : Int32)) = (16384 : Int32))) :
    MetFree l (⟨"java/lang/StringLatin1", "indexOfNonWhitespace", "([B)I"⟩ : MethodName) (head1 (Jvm.Cond.code (⟨"java/lang/StringLatin1", "indexOfNonWhitespace", "([B)I"⟩ : MethodName) jdk_43_method_37_code 4 (some .int) :: ws) ({ frames := 2, cells := 0, slots := 0, locals := 31 } : Room)) (fun ar UU => ar = #[(.ref t)] ∧ Z.Warmed39 UU.vm ∧ UU.heap = h0) (fun _ _ _ _ _ => True) (fun _ UU oo UU' => ∃ vv LL, oo = .returned vv ∧ QIx Z t k ch aI aA clA h0 n0 vv UU'.heap LL ∧ FrameEnd UU oo UU' LL ({ frames := 2, cells := 0, slots := 0, locals := 31 } : Room).cells ({ frames := 2, cells := 0, slots := 0, locals := 31 } : Room).slots) := by
  refine MetFree.of_bodySF (plainFor_of_name pn_13) hisR ?_
  intro p e s m args below meth c s₁ Bd hml0 hP hK
  obtain ⟨rfl, hZ, hh⟩ := hP
  have hx := Bd.exec
  have hby := Bd.bytes
  have hml : c.maxLocals = 4 := hml0
  have hown : s.vm.findClass "java/lang/StringLatin1" = some m.cls := findClass_of_methodNamed Bd.named
  have hnm := (name_of_methodNamed Bd.named Bd.method).1
  have X0 : Stand p l e ({ frames := 2, cells := 0, slots := 0, locals := 31 } : Room) s m #[(.ref t)] below meth c s₁ [] 0 0 := Stand.of_body Bd
  have e0 : s₁.heap = h0 := by rw [← hh, Bd.state]; rfl
  have N0 := Fr.nil n0
  have KC0 : Keep h0 h0 [] := Keep.refl h0 []
  have pre0 : ∀ tgt, Steps p.tables e below (s₁.setTop (mkF m 0 #[.val (.ref t), .unset, .unset, .unset] [])) tgt → Steps p.tables e below (s₁.setTop (entryFrame m #[(.ref t)] 4)) tgt := fun tgt kk => castTop (ef_rmIx m (t)) kk
  have pre1 : ∀ tgt, Steps p.tables e below (s₁.setTop (mkF m 1 #[.val (.ref t), .unset, .unset, .unset] [(.ref t)])) tgt → Steps p.tables e below (s₁.setTop (entryFrame m #[(.ref t)] 4)) tgt := by
    intro tgt kk
    refine pre0 tgt ?_
    refine XS.aloadN X0.here hx rfl (hb hby d13_0) rfl rfl ?_
    show Steps p.tables e below (s₁.setTop (mkF m 1 #[.val (.ref t), .unset, .unset, .unset] [(.ref t)])) _
    exact kk
  obtain ⟨cl2, Ar2, aq2, aS2, aN2, aH2, aG2⟩ := id V_t
  have pre3 : ∀ tgt, Steps p.tables e below (s₁.setTop (mkF m 12 #[.val (.ref t), .val (.int (1 : Int32)), .val (.int (0 : Int32)), .unset] [(.int (0 : Int32)), (.ref t)])) tgt → Steps p.tables e below (s₁.setTop (entryFrame m #[(.ref t)] 4)) tgt := by
    intro tgt kk
    refine pre1 tgt ?_
    refine X0.arraylength hx (by rw [e0]; exact Ar2.1) (State.isArrayOf_alike hZ.alike Ar2.2.1) (g := (mkF m 1 #[.val (.ref t), .unset, .unset, .unset] [(.ref t)])) rfl rfl (hb hby d13_1) _ ?_
    rw [len_of aS2 aN2]
    show Steps p.tables e below (s₁.setTop (mkF m 2 #[.val (.ref t), .unset, .unset, .unset] [(.int (1 : Int32))])) _
    refine XS.istoreN X0.here hx rfl (hb hby d13_2) rfl (l' := #[.val (.ref t), .val (.int (1 : Int32)), .unset, .unset]) rfl ?_
    show Steps p.tables e below (s₁.setTop (mkF m 3 #[.val (.ref t), .val (.int (1 : Int32)), .unset, .unset] [])) _
    refine XS.iconst X0.here hx rfl (hb hby d13_3) ?_
    show Steps p.tables e below (s₁.setTop (mkF m 4 #[.val (.ref t), .val (.int (1 : Int32)), .unset, .unset] [(.int (0 : Int32))])) _
    refine XS.istoreN X0.here hx rfl (hb hby d13_4) rfl (l' := #[.val (.ref t), .val (.int (1 : Int32)), .val (.int (0 : Int32)), .unset]) rfl ?_
    show Steps p.tables e below (s₁.setTop (mkF m 5 #[.val (.ref t), .val (.int (1 : Int32)), .val (.int (0 : Int32)), .unset] [])) _
    refine XS.iloadN X0.here hx rfl (hb hby d13_5) rfl ?_
    show Steps p.tables e below (s₁.setTop (mkF m 6 #[.val (.ref t), .val (.int (1 : Int32)), .val (.int (0 : Int32)), .unset] [(.int (0 : Int32))])) _
    refine XS.iloadN X0.here hx rfl (hb hby d13_6) rfl ?_
    show Steps p.tables e below (s₁.setTop (mkF m 7 #[.val (.ref t), .val (.int (1 : Int32)), .val (.int (0 : Int32)), .unset] [(.int (1 : Int32)), (.int (0 : Int32))])) _
    refine XS.icmpNo X0.here hx rfl (hb hby d13_7) rfl (XT.ii_ge_f (by decide)) ?_
    show Steps p.tables e below (s₁.setTop (mkF m 10 #[.val (.ref t), .val (.int (1 : Int32)), .val (.int (0 : Int32)), .unset] [])) _
    refine XS.aloadN X0.here hx rfl (hb hby d13_10) rfl rfl ?_
    show Steps p.tables e below (s₁.setTop (mkF m 11 #[.val (.ref t), .val (.int (1 : Int32)), .val (.int (0 : Int32)), .unset] [(.ref t)])) _
    refine XS.iloadN X0.here hx rfl (hb hby d13_11) rfl ?_
    show Steps p.tables e below (s₁.setTop (mkF m 12 #[.val (.ref t), .val (.int (1 : Int32)), .val (.int (0 : Int32)), .unset] [(.int (0 : Int32)), (.ref t)])) _
    exact kk
  obtain ⟨_, _, ⟨T4, L4, k4, n4⟩, -, X4, ⟨Lc4, hQ4, l4, y4, z4⟩, st4⟩ := Jvm.LawKit.callS X0 hx (y := (⟨"java/lang/StringLatin1", "getChar", "([BI)C"⟩ : MethodName)) hown (mvT hZ (hw _ (List.mem_of_getElem? (i := 65) rfl))) (mvT hZ (hw _ (List.mem_of_getElem? (i := 66) rfl))) (mvT hZ (hw _ (List.mem_of_getElem? (i := 15) rfl))) (mvT hZ (hw _ (List.mem_of_getElem? (i := 67) rfl))) (by decide) (backOf (W := 0) (rmGC l Z a0 hw [] t k ch h0 n0 Z0 V_t hp0) hZ (hw _ (List.mem_of_getElem? (i := 67) rfl)) (hw _ (List.mem_of_getElem? (i := 15) rfl)) (by decide) (by decide)) (g := (mkF m 12 #[.val (.ref t), .val (.int (1 : Int32)), .val (.int (0 : Int32)), .unset] [(.int (0 : Int32)), (.ref t)])) rfl (by rw [hml]; rfl) (argsL := [(.ref t), (.int (0 : Int32))]) (rest := []) (lenOf pd___BI_C rfl) rfl (by show 2 * 0 + _ ≤ _; exact Nat.le_of_eq rfl) (hb hby d13_12) (fun _ _ => ⟨rfl, e0, (by decide : 0 + 0 ≤ _), (by decide : 0 + 0 ≤ _)⟩)
  dsimp only [Pt.U, Pt.locs, Pt.cells, Pt.slots] at X4 l4 y4 z4 st4 hQ4
  subst l4 y4 z4
  obtain ⟨rfl, N4q, hh4⟩ := hQ4
  have N4 := Fr.app N0 N4q
  have hk5 : ¬ (ch = (32 : Int32)) := hnb.1
  have hk6 : ¬ (ch = (9 : Int32)) := hnb.2.1
  have pre7 : ∀ tgt, Steps p.tables e below (T4.setTop (mkF m 28 #[.val (.ref t), .val (.int (1 : Int32)), .val (.int (0 : Int32)), .val (.int ch)] [])) tgt → Steps p.tables e below (s₁.setTop (entryFrame m #[(.ref t)] 4)) tgt := by
    intro tgt kk
    refine pre3 tgt ?_
    refine st4 _ ?_
    show Steps p.tables e below (T4.setTop (mkF m 15 #[.val (.ref t), .val (.int (1 : Int32)), .val (.int (0 : Int32)), .unset] [(.int ch)])) _
    refine XS.istoreN X4.here hx rfl (hb hby d13_15) rfl (l' := #[.val (.ref t), .val (.int (1 : Int32)), .val (.int (0 : Int32)), .val (.int ch)]) rfl ?_
    show Steps p.tables e below (T4.setTop (mkF m 16 #[.val (.ref t), .val (.int (1 : Int32)), .val (.int (0 : Int32)), .val (.int ch)] [])) _
    refine XS.iloadN X4.here hx rfl (hb hby d13_16) rfl ?_
    show Steps p.tables e below (T4.setTop (mkF m 17 #[.val (.ref t), .val (.int (1 : Int32)), .val (.int (0 : Int32)), .val (.int ch)] [(.int ch)])) _
    refine XS.bipush X4.here hx rfl (hb hby d13_17) ?_
    show Steps p.tables e below (T4.setTop (mkF m 19 #[.val (.ref t), .val (.int (1 : Int32)), .val (.int (0 : Int32)), .val (.int ch)] [(.int (32 : Int32)), (.int ch)])) _
    refine XS.icmpNo X4.here hx rfl (hb hby d13_19) rfl (XT.ii_eq_f hk5) ?_
    show Steps p.tables e below (T4.setTop (mkF m 22 #[.val (.ref t), .val (.int (1 : Int32)), .val (.int (0 : Int32)), .val (.int ch)] [])) _
    refine XS.iloadN X4.here hx rfl (hb hby d13_22) rfl ?_
    show Steps p.tables e below (T4.setTop (mkF m 23 #[.val (.ref t), .val (.int (1 : Int32)), .val (.int (0 : Int32)), .val (.int ch)] [(.int ch)])) _
    refine XS.bipush X4.here hx rfl (hb hby d13_23) ?_
    show Steps p.tables e below (T4.setTop (mkF m 25 #[.val (.ref t), .val (.int (1 : Int32)), .val (.int (0 : Int32)), .val (.int ch)] [(.int (9 : Int32)), (.int ch)])) _
    refine XS.icmpNo X4.here hx rfl (hb hby d13_25) rfl (XT.ii_eq_f hk6) ?_
    show Steps p.tables e below (T4.setTop (mkF m 28 #[.val (.ref t), .val (.int (1 : Int32)), .val (.int (0 : Int32)), .val (.int ch)] [])) _
    exact kk
  obtain ⟨T8, X8, e8, st8⟩ := getS X4 hx hZ hown (host := "") (hw _ (List.mem_of_getElem? (i := 68) rfl)) Via.refl hh4 S_I (g := (mkF m 28 #[.val (.ref t), .val (.int (1 : Int32)), .val (.int (0 : Int32)), .val (.int ch)] [])) rfl (hb hby d13_28)
  have pre9 : ∀ tgt, Steps p.tables e below (T8.setTop (mkF m 32 #[.val (.ref t), .val (.int (1 : Int32)), .val (.int (0 : Int32)), .val (.int ch)] [(.int ch), (.ref aI)])) tgt → Steps p.tables e below (s₁.setTop (entryFrame m #[(.ref t)] 4)) tgt := by
    intro tgt kk
    refine pre7 tgt ?_
    refine st8 _ ?_
    show Steps p.tables e below (T8.setTop (mkF m 31 #[.val (.ref t), .val (.int (1 : Int32)), .val (.int (0 : Int32)), .val (.int ch)] [(.ref aI)])) _
    refine XS.iloadN X8.here hx rfl (hb hby d13_31) rfl ?_
    show Steps p.tables e below (T8.setTop (mkF m 32 #[.val (.ref t), .val (.int (1 : Int32)), .val (.int (0 : Int32)), .val (.int ch)] [(.int ch), (.ref aI)])) _
    exact kk
  obtain ⟨cq10, kq10, q10a, q10b, q10c⟩ := isOf hZ e8 E_I
  obtain ⟨_, _, ⟨T10, L10, k10, n10⟩, -, X10, ⟨Lc10, hQ10, l10, y10, z10⟩, st10⟩ := X8.virtualBack hx (y := (⟨"java/lang/CharacterDataLatin1", "isWhitespace", "(I)Z"⟩ : MethodName)) (z := (⟨"java/lang/CharacterDataLatin1", "isWhitespace", "(I)Z"⟩ : MethodName)) hown (mvT hZ (hw _ (List.mem_of_getElem? (i := 70) rfl))) (mvT hZ (hw _ (List.mem_of_getElem? (i := 71) rfl))) (notFace_of_selects (args := #[]) (mvT hZ (hw _ (List.mem_of_getElem? (i := 73) rfl)))) (mvT hZ (hw _ (List.mem_of_getElem? (i := 73) rfl))) (mvT hZ (hw _ (List.mem_of_getElem? (i := 72) rfl))) (by decide) (backOf (W := 0) (rmW l Z a0 hw [] aI (ch) aA clA h0 n0 Z0 E_I S_A Tb (own_256 hp0)) hZ (hw _ (List.mem_of_getElem? (i := 74) rfl)) (hw _ (List.mem_of_getElem? (i := 69) rfl)) (by decide) (by decide)) q10a q10c (g := (mkF m 32 #[.val (.ref t), .val (.int (1 : Int32)), .val (.int (0 : Int32)), .val (.int ch)] [(.int ch), (.ref aI)])) rfl (by rw [hml]; rfl) (Steps.refl _) (argsL := [(.int ch)]) (rest := []) (lenOf pd__I_Z rfl) rfl (by show 2 * 0 + _ ≤ _; exact Nat.le_of_eq rfl) (hb hby d13_32) (fun _ _ => ⟨rfl, e8, (by decide : 0 + 0 ≤ _), (by decide : 0 + 0 ≤ _)⟩)
  dsimp only [Pt.U, Pt.locs, Pt.cells, Pt.slots] at X10 l10 y10 z10 st10 hQ10
  subst l10 y10 z10
  obtain ⟨rfl, N10q, hh10⟩ := hQ10
  have N10 := Fr.app N4 N10q
  have hk11 : ¬ (((atv clA ch) &&& (28672 : Int32)) = (16384 : Int32)) := hnb.2.2
  obtain ⟨fs, hr, hrun, hended, hW, hsame⟩ := X10.leave (v := some (.int (0 : Int32))) (fun h => by rw [Bd.returns] at h; cases h)
  refine ⟨_, _, pre9 _ ?_, hrun, hended, _, _, rfl, ?_, ⟨_, rfl⟩, hW, hsame.mono (by decide) (by decide)⟩
  · skip
    refine st10.trans ?_
    show Steps p.tables e below (T10.setTop (mkF m 35 #[.val (.ref t), .val (.int (1 : Int32)), .val (.int (0 : Int32)), .val (.int ch)] [(.int (bI (((atv clA ch) &&& (28672 : Int32)) = (16384 : Int32))))])) _
    refine XS.ifNo X10.here hx rfl (hb hby d13_35) rfl (bB_ne_f hk11) ?_
    show Steps p.tables e below (T10.setTop (mkF m 38 #[.val (.ref t), .val (.int (1 : Int32)), .val (.int (0 : Int32)), .val (.int ch)] [])) _
    refine XS.goto X10.here hx rfl (pc0 := 38) (pc' := 47) rfl (hb hby d13_38) (by decide) (by decide) ?_
    show Steps p.tables e below (T10.setTop (mkF m 47 #[.val (.ref t), .val (.int (1 : Int32)), .val (.int (0 : Int32)), .val (.int ch)] [])) _
    refine XS.iloadN X10.here hx rfl (hb hby d13_47) rfl ?_
    show Steps p.tables e below (T10.setTop (mkF m 48 #[.val (.ref t), .val (.int (1 : Int32)), .val (.int (0 : Int32)), .val (.int ch)] [(.int (0 : Int32))])) _
    exact retI X10 hx Bd.returns (hb hby d13_48) hr
  · show QIx Z t k ch aI aA clA h0 n0 _ T10.heap _
    rw [hh10]
    exact ⟨rfl, N10, rfl⟩
theorem d12_0 : decode jdk_42_method_154_code 0 = .ok (.getstatic 38, 3) := by decide +kernel
theorem d12_3 : decode jdk_42_method_154_code 3 = .ok (.ifCond .eq 14, 3) := by decide +kernel
theorem d12_6 : decode jdk_42_method_154_code 6 = .ok (.aload_n 0, 1) := by decide +kernel
theorem d12_7 : decode jdk_42_method_154_code 7 = .ok (.getfield 15, 3) := by decide +kernel
theorem d12_10 : decode jdk_42_method_154_code 10 = .ok (.ifCond .ne 7, 3) := by decide +kernel
theorem d12_13 : decode jdk_42_method_154_code 13 = .ok (.iconst 1, 1) := by decide +kernel
theorem d12_14 : decode jdk_42_method_154_code 14 = .ok (.goto 4, 3) := by decide +kernel
theorem d12_18 : decode jdk_42_method_154_code 18 = .ok (.ireturn, 1) := by decide +kernel
theorem pn_12 : plainName "java/lang/String" = true := by first | (simp [plainName, overriddenIn]; done) | decide +kernel
theorem ef_rmLat (m : MethodId) (x0 : Addr) : entryFrame m #[(.ref x0)] 1 = mkF m 0 #[.val (.ref x0)] [] := by first | (simp [entryFrame, mkF, argsToLocals, Value.category]; done) | rfl
def QLat (Z : State) (x : Addr) (z0 : Int32) (h0 : Heap) (n0 : Nat) (v : Option Value) (h : Heap) (L : List Loc) : Prop := v = some (.int (1 : Int32)) ∧ Fr n0 L ∧ h = h0
set_option maxRecDepth 65536 in
set_option maxHeartbeats 40000000 in
theorem rmLat (l : Launch) (Z : State) (a0 : Array Value) (hw : ∀ d ∈ tables_1, d.before a0 Z = true) (ws : List Jvm.Cond) (x : Addr) (z0 : Int32) (h0 : Heap) (n0 : Nat) (Z0 : n0 ≤ h0.size) (S_CS : Sta Z h0 "java/lang/String" "COMPACT_STRINGS" "Z" (.int z0)) (Fc_x : Fld Z h0 x "java/lang/String" "coder" "B" (.int (0 : Int32))) (hz : ¬ z0 = 0) :
    MetFree l (⟨"java/lang/String", "isLatin1", "()Z"⟩ : MethodName) (head1 (Jvm.Cond.code (⟨"java/lang/String", "isLatin1", "()Z"⟩ : MethodName) jdk_42_method_154_code 1 (some .boolean) :: ws) ({ frames := 0, cells := 0, slots := 0, locals := 0 } : Room)) (fun ar UU => ar = #[(.ref x)] ∧ Z.Warmed39 UU.vm ∧ UU.heap = h0) (fun _ _ _ _ _ => True) (fun _ UU oo UU' => ∃ vv LL, oo = .returned vv ∧ QLat Z x z0 h0 n0 vv UU'.heap LL ∧ FrameEnd UU oo UU' LL ({ frames := 0, cells := 0, slots := 0, locals := 0 } : Room).cells ({ frames := 0, cells := 0, slots := 0, locals := 0 } : Room).slots) := by
  refine MetFree.of_bodySF (plainFor_of_name pn_12) hisR ?_
  intro p e s m args below meth c s₁ Bd hml0 hP hK
  obtain ⟨rfl, hZ, hh⟩ := hP
  have hx := Bd.exec
  have hby := Bd.bytes
  have hml : c.maxLocals = 1 := hml0
  have hown : s.vm.findClass "java/lang/String" = some m.cls := findClass_of_methodNamed Bd.named
  have hnm := (name_of_methodNamed Bd.named Bd.method).1
  have X0 : Stand p l e ({ frames := 0, cells := 0, slots := 0, locals := 0 } : Room) s m #[(.ref x)] below meth c s₁ [] 0 0 := Stand.of_body Bd
  have e0 : s₁.heap = h0 := by rw [← hh, Bd.state]; rfl
  have N0 := Fr.nil n0
  have KC0 : Keep h0 h0 [] := Keep.refl h0 []
  have pre0 : ∀ tgt, Steps p.tables e below (s₁.setTop (mkF m 0 #[.val (.ref x)] [])) tgt → Steps p.tables e below (s₁.setTop (entryFrame m #[(.ref x)] 1)) tgt := fun tgt kk => castTop (ef_rmLat m (x)) kk
  obtain ⟨T1, X1, e1, st1⟩ := getS X0 hx hZ hown (host := "") (hw _ (List.mem_of_getElem? (i := 12) rfl)) Via.refl e0 S_CS (g := (mkF m 0 #[.val (.ref x)] [])) rfl (hb hby d12_0)
  have hk2 : ¬ (z0 = (0 : Int32)) := hz
  have pre3 : ∀ tgt, Steps p.tables e below (T1.setTop (mkF m 7 #[.val (.ref x)] [(.ref x)])) tgt → Steps p.tables e below (s₁.setTop (entryFrame m #[(.ref x)] 1)) tgt := by
    intro tgt kk
    refine pre0 tgt ?_
    refine st1 _ ?_
    show Steps p.tables e below (T1.setTop (mkF m 3 #[.val (.ref x)] [(.int z0)])) _
    refine XS.ifNo X1.here hx rfl (hb hby d12_3) rfl (XT.i0_eq_f hk2) ?_
    show Steps p.tables e below (T1.setTop (mkF m 6 #[.val (.ref x)] [])) _
    refine XS.aloadN X1.here hx rfl (hb hby d12_6) rfl rfl ?_
    show Steps p.tables e below (T1.setTop (mkF m 7 #[.val (.ref x)] [(.ref x)])) _
    exact kk
  obtain ⟨T4, X4, e4, st4⟩ := getF X1 hx hZ hown (host := "") (Or.inl (hw _ (List.mem_of_getElem? (i := 32) rfl))) Via.refl e1 Fc_x (g := (mkF m 7 #[.val (.ref x)] [(.ref x)])) rfl rfl (hb hby d12_7)
  obtain ⟨fs, hr, hrun, hended, hW, hsame⟩ := X4.leave (v := some (.int (1 : Int32))) (fun h => by rw [Bd.returns] at h; cases h)
  refine ⟨_, _, pre3 _ ?_, hrun, hended, _, _, rfl, ?_, ⟨_, rfl⟩, hW, hsame.mono (by decide) (by decide)⟩
  · skip
    refine st4 _ ?_
    show Steps p.tables e below (T4.setTop (mkF m 10 #[.val (.ref x)] [(.int (0 : Int32))])) _
    refine XS.ifNo X4.here hx rfl (hb hby d12_10) rfl (XT.i0_ne_f (by decide)) ?_
    show Steps p.tables e below (T4.setTop (mkF m 13 #[.val (.ref x)] [])) _
    refine XS.iconst X4.here hx rfl (hb hby d12_13) ?_
    show Steps p.tables e below (T4.setTop (mkF m 14 #[.val (.ref x)] [(.int (1 : Int32))])) _
    refine XS.goto X4.here hx rfl (pc0 := 14) (pc' := 18) rfl (hb hby d12_14) (by decide) (by decide) ?_
    show Steps p.tables e below (T4.setTop (mkF m 18 #[.val (.ref x)] [(.int (1 : Int32))])) _
    exact retN X4 hx (t := .boolean) Bd.returns (by simp) (hb hby d12_18) hr
  · show QLat Z x z0 h0 n0 _ T4.heap _
    rw [e4]
    exact ⟨rfl, N0, rfl⟩
theorem d11_0 : decode jdk_42_method_120_code 0 = .ok (.aload_n 0, 1) := by decide +kernel
theorem d11_1 : decode jdk_42_method_120_code 1 = .ok (.invokevirtual 492, 3) := by decide +kernel
theorem d11_4 : decode jdk_42_method_120_code 4 = .ok (.ifCond .eq 13, 3) := by decide +kernel
theorem d11_7 : decode jdk_42_method_120_code 7 = .ok (.aload_n 0, 1) := by decide +kernel
theorem d11_8 : decode jdk_42_method_120_code 8 = .ok (.getfield 9, 3) := by decide +kernel
theorem d11_11 : decode jdk_42_method_120_code 11 = .ok (.invokestatic 924, 3) := by decide +kernel
theorem d11_14 : decode jdk_42_method_120_code 14 = .ok (.goto 10, 3) := by decide +kernel
theorem d11_24 : decode jdk_42_method_120_code 24 = .ok (.ireturn, 1) := by decide +kernel
theorem pn_11 : plainName "java/lang/String" = true := by first | (simp [plainName, overriddenIn]; done) | decide +kernel
theorem pd___Z : parseMethodDescriptor "()Z" = some ⟨[], some .boolean⟩ := by decide +kernel
theorem pd___B_I : parseMethodDescriptor "([B)I" = some ⟨[(.array .byte)], some .int⟩ := by decide +kernel
theorem ef_rmIS (m : MethodId) (x0 : Addr) : entryFrame m #[(.ref x0)] 1 = mkF m 0 #[.val (.ref x0)] [] := by first | (simp [entryFrame, mkF, argsToLocals, Value.category]; done) | rfl
def QIS (Z : State) (x : Addr) (t : Addr) (k : ClassId) (ch : Int32) (z0 : Int32) (aI : Addr) (aA : Addr) (clA : Cell) (h0 : Heap) (n0 : Nat) (v : Option Value) (h : Heap) (L : List Loc) : Prop := v = some (.int (0 : Int32)) ∧ Fr n0 L ∧ h = h0
set_option maxRecDepth 65536 in
set_option maxHeartbeats 40000000 in
theorem rmIS (l : Launch) (Z : State) (a0 : Array Value) (hw : ∀ d ∈ tables_1, d.before a0 Z = true) (ws : List Jvm.Cond) (x : Addr) (t : Addr) (k : ClassId) (ch : Int32) (z0 : Int32) (aI : Addr) (aA : Addr) (clA : Cell) (h0 : Heap) (n0 : Nat) (Z0 : n0 ≤ h0.size) (S_CS : Sta Z h0 "java/lang/String" "COMPACT_STRINGS" "Z" (.int z0)) (E_x : Exa Z h0 x "java/lang/String") (Fv_x : Fld Z h0 x "java/lang/String" "value" "[B" (.ref t)) (Fc_x : Fld Z h0 x "java/lang/String" "coder" "B" (.int (0 : Int32))) (V_x : Arv Z h0 t k .byte (1 : Int32) ((([ch] : List Int32).map (fun c => c.toInt8.toInt32)).map Value.int) (.int (0 : Int32))) (S_A : Sta Z h0 "java/lang/CharacterDataLatin1" "A" "[I" (.ref aA)) (S_I : Sta Z h0 "java/lang/CharacterDataLatin1" "instance" "Ljava/lang/CharacterDataLatin1;" (.ref aI)) (E_I : Exa Z h0 aI "java/lang/CharacterDataLatin1") (Tb : Tab Z h0 aA clA .int (256 : Int32)) (hp0 : ¬ ch < 0 ∧ ¬ (255 : Int32) < ch) (hnb : ¬ (ch = (32 : Int32)) ∧ ¬ (ch = (9 : Int32)) ∧ ¬ (((atv clA ch) &&& (28672 : Int32)) = (16384 : Int32))) (hz : ¬ z0 = 0) :
    MetFree l (⟨"java/lang/String", "indexOfNonWhitespace", "()I"⟩ : MethodName) (head1 (Jvm.Cond.code (⟨"java/lang/String", "indexOfNonWhitespace", "()I"⟩ : MethodName) jdk_42_method_120_code 1 (some .int) :: ws) ({ frames := 3, cells := 0, slots := 0, locals := 46 } : Room)) (fun ar UU => ar = #[(.ref x)] ∧ Z.Warmed39 UU.vm ∧ UU.heap = h0) (fun _ _ _ _ _ => True) (fun _ UU oo UU' => ∃ vv LL, oo = .returned vv ∧ QIS Z x t k ch z0 aI aA clA h0 n0 vv UU'.heap LL ∧ FrameEnd UU oo UU' LL ({ frames := 3, cells := 0, slots := 0, locals := 46 } : Room).cells ({ frames := 3, cells := 0, slots := 0, locals := 46 } : Room).slots) := by
  refine MetFree.of_bodySF (plainFor_of_name pn_11) hisR ?_
  intro p e s m args below meth c s₁ Bd hml0 hP hK
  obtain ⟨rfl, hZ, hh⟩ := hP
  have hx := Bd.exec
  have hby := Bd.bytes
  have hml : c.maxLocals = 1 := hml0
  have hown : s.vm.findClass "java/lang/String" = some m.cls := findClass_of_methodNamed Bd.named
  have hnm := (name_of_methodNamed Bd.named Bd.method).1
  have X0 : Stand p l e ({ frames := 3, cells := 0, slots := 0, locals := 46 } : Room) s m #[(.ref x)] below meth c s₁ [] 0 0 := Stand.of_body Bd
  have e0 : s₁.heap = h0 := by rw [← hh, Bd.state]; rfl
  have N0 := Fr.nil n0
  have KC0 : Keep h0 h0 [] := Keep.refl h0 []
  have pre0 : ∀ tgt, Steps p.tables e below (s₁.setTop (mkF m 0 #[.val (.ref x)] [])) tgt → Steps p.tables e below (s₁.setTop (entryFrame m #[(.ref x)] 1)) tgt := fun tgt kk => castTop (ef_rmIS m (x)) kk
  have pre1 : ∀ tgt, Steps p.tables e below (s₁.setTop (mkF m 1 #[.val (.ref x)] [(.ref x)])) tgt → Steps p.tables e below (s₁.setTop (entryFrame m #[(.ref x)] 1)) tgt := by
    intro tgt kk
    refine pre0 tgt ?_
    refine XS.aloadN X0.here hx rfl (hb hby d11_0) rfl rfl ?_
    show Steps p.tables e below (s₁.setTop (mkF m 1 #[.val (.ref x)] [(.ref x)])) _
    exact kk
  obtain ⟨cq2, kq2, q2a, q2b, q2c⟩ := isOf hZ e0 E_x
  obtain ⟨_, _, ⟨T2, L2, k2, n2⟩, -, X2, ⟨Lc2, hQ2, l2, y2, z2⟩, st2⟩ := X0.virtualBack hx (y := (⟨"java/lang/String", "isLatin1", "()Z"⟩ : MethodName)) (z := (⟨"java/lang/String", "isLatin1", "()Z"⟩ : MethodName)) hown (mvT hZ (hw _ (List.mem_of_getElem? (i := 57) rfl))) (mvT hZ (hw _ (List.mem_of_getElem? (i := 58) rfl))) (notFace_of_selects (args := #[]) (mvT hZ (hw _ (List.mem_of_getElem? (i := 60) rfl)))) (mvT hZ (hw _ (List.mem_of_getElem? (i := 60) rfl))) (mvT hZ (hw _ (List.mem_of_getElem? (i := 59) rfl))) (by decide) (backOf (W := 0) (rmLat l Z a0 hw [] x z0 h0 n0 Z0 S_CS Fc_x hz) hZ (hw _ (List.mem_of_getElem? (i := 61) rfl)) (hw _ (List.mem_of_getElem? (i := 10) rfl)) (by decide) (by decide)) q2a q2c (g := (mkF m 1 #[.val (.ref x)] [(.ref x)])) rfl (by rw [hml]; rfl) (Steps.refl _) (argsL := []) (rest := []) (lenOf pd___Z rfl) rfl (by show 2 * 0 + _ ≤ _; exact Nat.le_of_eq rfl) (hb hby d11_1) (fun _ _ => ⟨rfl, e0, (by decide : 0 + 0 ≤ _), (by decide : 0 + 0 ≤ _)⟩)
  dsimp only [Pt.U, Pt.locs, Pt.cells, Pt.slots] at X2 l2 y2 z2 st2 hQ2
  subst l2 y2 z2
  obtain ⟨rfl, N2q, hh2⟩ := hQ2
  have N2 := Fr.app N0 N2q
  have pre3 : ∀ tgt, Steps p.tables e below (T2.setTop (mkF m 8 #[.val (.ref x)] [(.ref x)])) tgt → Steps p.tables e below (s₁.setTop (entryFrame m #[(.ref x)] 1)) tgt := by
    intro tgt kk
    refine pre1 tgt ?_
    refine st2.trans ?_
    show Steps p.tables e below (T2.setTop (mkF m 4 #[.val (.ref x)] [(.int (1 : Int32))])) _
    refine XS.ifNo X2.here hx rfl (hb hby d11_4) rfl (XT.i0_eq_f (by decide)) ?_
    show Steps p.tables e below (T2.setTop (mkF m 7 #[.val (.ref x)] [])) _
    refine XS.aloadN X2.here hx rfl (hb hby d11_7) rfl rfl ?_
    show Steps p.tables e below (T2.setTop (mkF m 8 #[.val (.ref x)] [(.ref x)])) _
    exact kk
  obtain ⟨T4, X4, e4, st4⟩ := getF X2 hx hZ hown (host := "") (Or.inl (hw _ (List.mem_of_getElem? (i := 30) rfl))) Via.refl hh2 Fv_x (g := (mkF m 8 #[.val (.ref x)] [(.ref x)])) rfl rfl (hb hby d11_8)
  have pre5 : ∀ tgt, Steps p.tables e below (T4.setTop (mkF m 11 #[.val (.ref x)] [(.ref t)])) tgt → Steps p.tables e below (s₁.setTop (entryFrame m #[(.ref x)] 1)) tgt := by
    intro tgt kk
    refine pre3 tgt ?_
    refine st4 _ ?_
    show Steps p.tables e below (T4.setTop (mkF m 11 #[.val (.ref x)] [(.ref t)])) _
    exact kk
  obtain ⟨_, _, ⟨T6, L6, k6, n6⟩, -, X6, ⟨Lc6, hQ6, l6, y6, z6⟩, st6⟩ := Jvm.LawKit.callS X4 hx (y := (⟨"java/lang/StringLatin1", "indexOfNonWhitespace", "([B)I"⟩ : MethodName)) hown (mvT hZ (hw _ (List.mem_of_getElem? (i := 62) rfl))) (mvT hZ (hw _ (List.mem_of_getElem? (i := 63) rfl))) (mvT hZ (hw _ (List.mem_of_getElem? (i := 15) rfl))) (mvT hZ (hw _ (List.mem_of_getElem? (i := 64) rfl))) (by decide) (backOf (W := 0) (rmIx l Z a0 hw [] t k ch aI aA clA h0 n0 Z0 V_x S_A S_I E_I Tb hp0 hnb) hZ (hw _ (List.mem_of_getElem? (i := 64) rfl)) (hw _ (List.mem_of_getElem? (i := 15) rfl)) (by decide) (by decide)) (g := (mkF m 11 #[.val (.ref x)] [(.ref t)])) rfl (by rw [hml]; rfl) (argsL := [(.ref t)]) (rest := []) (lenOf pd___B_I rfl) rfl (by show 2 * 0 + _ ≤ _; exact Nat.le_of_eq rfl) (hb hby d11_11) (fun _ _ => ⟨rfl, e4, (by decide : 0 + 0 ≤ _), (by decide : 0 + 0 ≤ _)⟩)
  dsimp only [Pt.U, Pt.locs, Pt.cells, Pt.slots] at X6 l6 y6 z6 st6 hQ6
  subst l6 y6 z6
  obtain ⟨rfl, N6q, hh6⟩ := hQ6
  have N6 := Fr.app N2 N6q
  obtain ⟨fs, hr, hrun, hended, hW, hsame⟩ := X6.leave (v := some (.int (0 : Int32))) (fun h => by rw [Bd.returns] at h; cases h)
  refine ⟨_, _, pre5 _ ?_, hrun, hended, _, _, rfl, ?_, ⟨_, rfl⟩, hW, hsame.mono (by decide) (by decide)⟩
  · skip
    refine st6 _ ?_
    show Steps p.tables e below (T6.setTop (mkF m 14 #[.val (.ref x)] [(.int (0 : Int32))])) _
    refine XS.goto X6.here hx rfl (pc0 := 14) (pc' := 24) rfl (hb hby d11_14) (by decide) (by decide) ?_
    show Steps p.tables e below (T6.setTop (mkF m 24 #[.val (.ref x)] [(.int (0 : Int32))])) _
    exact retI X6 hx Bd.returns (hb hby d11_24) hr
  · show QIS Z x t k ch z0 aI aA clA h0 n0 _ T6.heap _
    rw [hh6]
    exact ⟨rfl, N6, rfl⟩
theorem d10_0 : decode jdk_42_method_117_code 0 = .ok (.aload_n 0, 1) := by decide +kernel
theorem d10_1 : decode jdk_42_method_117_code 1 = .ok (.invokevirtual 876, 3) := by decide +kernel
theorem d10_4 : decode jdk_42_method_117_code 4 = .ok (.aload_n 0, 1) := by decide +kernel
theorem d10_5 : decode jdk_42_method_117_code 5 = .ok (.invokevirtual 505, 3) := by decide +kernel
theorem d10_8 : decode jdk_42_method_117_code 8 = .ok (.if_icmp .ne 7, 3) := by decide +kernel
theorem d10_15 : decode jdk_42_method_117_code 15 = .ok (.iconst 0, 1) := by decide +kernel
theorem d10_16 : decode jdk_42_method_117_code 16 = .ok (.ireturn, 1) := by decide +kernel
theorem pn_10 : plainName "java/lang/String" = true := by first | (simp [plainName, overriddenIn]; done) | decide +kernel
theorem pd___I : parseMethodDescriptor "()I" = some ⟨[], some .int⟩ := by decide +kernel
theorem ef_rmB (m : MethodId) (x0 : Addr) : entryFrame m #[(.ref x0)] 1 = mkF m 0 #[.val (.ref x0)] [] := by first | (simp [entryFrame, mkF, argsToLocals, Value.category]; done) | rfl
def QB (Z : State) (x : Addr) (t : Addr) (k : ClassId) (ch : Int32) (z0 : Int32) (aI : Addr) (aA : Addr) (clA : Cell) (h0 : Heap) (n0 : Nat) (v : Option Value) (h : Heap) (L : List Loc) : Prop := v = some (.int (0 : Int32)) ∧ Fr n0 L ∧ h = h0
set_option maxRecDepth 65536 in
set_option maxHeartbeats 40000000 in
theorem rmB (l : Launch) (Z : State) (a0 : Array Value) (hw : ∀ d ∈ tables_1, d.before a0 Z = true) (ws : List Jvm.Cond) (x : Addr) (t : Addr) (k : ClassId) (ch : Int32) (z0 : Int32) (aI : Addr) (aA : Addr) (clA : Cell) (h0 : Heap) (n0 : Nat) (Z0 : n0 ≤ h0.size) (S_CS : Sta Z h0 "java/lang/String" "COMPACT_STRINGS" "Z" (.int z0)) (E_x : Exa Z h0 x "java/lang/String") (Fv_x : Fld Z h0 x "java/lang/String" "value" "[B" (.ref t)) (Fc_x : Fld Z h0 x "java/lang/String" "coder" "B" (.int (0 : Int32))) (V_x : Arv Z h0 t k .byte (1 : Int32) ((([ch] : List Int32).map (fun c => c.toInt8.toInt32)).map Value.int) (.int (0 : Int32))) (S_A : Sta Z h0 "java/lang/CharacterDataLatin1" "A" "[I" (.ref aA)) (S_I : Sta Z h0 "java/lang/CharacterDataLatin1" "instance" "Ljava/lang/CharacterDataLatin1;" (.ref aI)) (E_I : Exa Z h0 aI "java/lang/CharacterDataLatin1") (Tb : Tab Z h0 aA clA .int (256 : Int32)) (hp0 : ¬ ch < 0 ∧ ¬ (255 : Int32) < ch) (hnb : ¬ (ch = (32 : Int32)) ∧ ¬ (ch = (9 : Int32)) ∧ ¬ (((atv clA ch) &&& (28672 : Int32)) = (16384 : Int32))) (hz : ¬ z0 = 0) :
    MetFree l (⟨"java/lang/String", "isBlank", "()Z"⟩ : MethodName) (head1 (Jvm.Cond.code (⟨"java/lang/String", "isBlank", "()Z"⟩ : MethodName) jdk_42_method_117_code 1 (some .boolean) :: ws) ({ frames := 4, cells := 0, slots := 0, locals := 58 } : Room)) (fun ar UU => ar = #[(.ref x)] ∧ Z.Warmed39 UU.vm ∧ UU.heap = h0) (fun _ _ _ _ _ => True) (fun _ UU oo UU' => ∃ vv LL, oo = .returned vv ∧ QB Z x t k ch z0 aI aA clA h0 n0 vv UU'.heap LL ∧ FrameEnd UU oo UU' LL ({ frames := 4, cells := 0, slots := 0, locals := 58 } : Room).cells ({ frames := 4, cells := 0, slots := 0, locals := 58 } : Room).slots) := by
  refine MetFree.of_bodySF (plainFor_of_name pn_10) hisR ?_
  intro p e s m args below meth c s₁ Bd hml0 hP hK
  obtain ⟨rfl, hZ, hh⟩ := hP
  have hx := Bd.exec
  have hby := Bd.bytes
  have hml : c.maxLocals = 1 := hml0
  have hown : s.vm.findClass "java/lang/String" = some m.cls := findClass_of_methodNamed Bd.named
  have hnm := (name_of_methodNamed Bd.named Bd.method).1
  have X0 : Stand p l e ({ frames := 4, cells := 0, slots := 0, locals := 58 } : Room) s m #[(.ref x)] below meth c s₁ [] 0 0 := Stand.of_body Bd
  have e0 : s₁.heap = h0 := by rw [← hh, Bd.state]; rfl
  have N0 := Fr.nil n0
  have KC0 : Keep h0 h0 [] := Keep.refl h0 []
  have pre0 : ∀ tgt, Steps p.tables e below (s₁.setTop (mkF m 0 #[.val (.ref x)] [])) tgt → Steps p.tables e below (s₁.setTop (entryFrame m #[(.ref x)] 1)) tgt := fun tgt kk => castTop (ef_rmB m (x)) kk
  have pre1 : ∀ tgt, Steps p.tables e below (s₁.setTop (mkF m 1 #[.val (.ref x)] [(.ref x)])) tgt → Steps p.tables e below (s₁.setTop (entryFrame m #[(.ref x)] 1)) tgt := by
    intro tgt kk
    refine pre0 tgt ?_
    refine XS.aloadN X0.here hx rfl (hb hby d10_0) rfl rfl ?_
    show Steps p.tables e below (s₁.setTop (mkF m 1 #[.val (.ref x)] [(.ref x)])) _
    exact kk
  obtain ⟨cq2, q2, q2'⟩ := E_x.cell
  obtain ⟨_, _, ⟨T2, L2, k2, n2⟩, -, X2, ⟨Lc2, hQ2, l2, y2, z2⟩, st2⟩ := X0.privateBack hx (y := (⟨"java/lang/String", "indexOfNonWhitespace", "()I"⟩ : MethodName)) hown (mvT hZ (hw _ (List.mem_of_getElem? (i := 52) rfl))) (mvT hZ (hw _ (List.mem_of_getElem? (i := 53) rfl))) (mvT hZ (hw _ (List.mem_of_getElem? (i := 55) rfl))) (Cond.privateMethod_at (mvP hZ (hw _ (List.mem_of_getElem? (i := 54) rfl)) (args := #[]))) (mvT hZ (hw _ (List.mem_of_getElem? (i := 56) rfl))) (by decide) (backOf (W := 0) (rmIS l Z a0 hw [] x t k ch z0 aI aA clA h0 n0 Z0 S_CS E_x Fv_x Fc_x V_x S_A S_I E_I Tb hp0 hnb hz) hZ (hw _ (List.mem_of_getElem? (i := 56) rfl)) (hw _ (List.mem_of_getElem? (i := 10) rfl)) (by decide) (by decide)) (g := (mkF m 1 #[.val (.ref x)] [(.ref x)])) rfl (by rw [hml]; rfl) (Steps.refl _) (a := x) (by rw [e0]; exact q2) q2' (argsL := []) (rest := []) (lenOf pd___I rfl) rfl (by show 2 * 0 + _ ≤ _; exact Nat.le_of_eq rfl) (hb hby d10_1) (fun _ _ => ⟨rfl, e0, (by decide : 0 + 0 ≤ _), (by decide : 0 + 0 ≤ _)⟩)
  dsimp only [Pt.U, Pt.locs, Pt.cells, Pt.slots] at X2 l2 y2 z2 st2 hQ2
  subst l2 y2 z2
  obtain ⟨rfl, N2q, hh2⟩ := hQ2
  have N2 := Fr.app N0 N2q
  have pre3 : ∀ tgt, Steps p.tables e below (T2.setTop (mkF m 5 #[.val (.ref x)] [(.ref x), (.int (0 : Int32))])) tgt → Steps p.tables e below (s₁.setTop (entryFrame m #[(.ref x)] 1)) tgt := by
    intro tgt kk
    refine pre1 tgt ?_
    refine st2.trans ?_
    show Steps p.tables e below (T2.setTop (mkF m 4 #[.val (.ref x)] [(.int (0 : Int32))])) _
    refine XS.aloadN X2.here hx rfl (hb hby d10_4) rfl rfl ?_
    show Steps p.tables e below (T2.setTop (mkF m 5 #[.val (.ref x)] [(.ref x), (.int (0 : Int32))])) _
    exact kk
  have hwl4 : ∀ d ∈ StrChars.Road.wordsLen, d.before a0 Z = true := fun d hd => hw d ((by decide +kernel : ∀ d ∈ StrChars.Road.wordsLen, d ∈ tables_1) d hd)
  obtain ⟨cq5, kq5, q5a, q5b, q5c⟩ := isOf hZ hh2 E_x
  obtain ⟨_, _, ⟨T5, L5, k5, n5⟩, -, X5, ⟨Lc5, hQ5, l5, y5, z5⟩, st5⟩ := X2.virtualBack hx (y := (⟨"java/lang/String", "length", "()I"⟩ : MethodName)) (z := (⟨"java/lang/String", "length", "()I"⟩ : MethodName)) hown (mvT hZ (hw _ (List.mem_of_getElem? (i := 81) rfl))) (mvT hZ (hw _ (List.mem_of_getElem? (i := 82) rfl))) (notFace_of_selects (args := #[]) (mvT hZ (hw _ (List.mem_of_getElem? (i := 84) rfl)))) (mvT hZ (hw _ (List.mem_of_getElem? (i := 84) rfl))) (mvT hZ (hw _ (List.mem_of_getElem? (i := 83) rfl))) (by decide) (StrChars.Road.lenW (W := 1) hZ hwl4 (kI := 4) (hw _ (List.mem_of_getElem? (i := 18) rfl)) E_x Fv_x Fc_x V_x (own_cod (n := 1) rfl rfl (own_pS hp0 own_p0)) (own_up (own_pS hp0 own_p0)) S_CS hz (Nat.le_of_ble_eq_true rfl) (by decide) (by decide)) q5a q5c (g := (mkF m 5 #[.val (.ref x)] [(.ref x), (.int (0 : Int32))])) rfl (by rw [hml]; rfl) (Steps.refl _) (argsL := []) (rest := [(.int (0 : Int32))]) (lenOf pd___I rfl) rfl (by show 2 * 0 + _ ≤ _; exact Nat.le_of_eq rfl) (hb hby d10_5) (fun _ _ => ⟨rfl, hh2, (by decide : 0 + 0 ≤ _), (by decide : 0 + 0 ≤ _)⟩)
  dsimp only [Pt.U, Pt.locs, Pt.cells, Pt.slots] at X5 l5 y5 z5 st5 hQ5
  subst l5 y5 z5
  obtain ⟨rfl, rfl, hh5⟩ := hQ5
  have N5q : Fr n0 ([] : List Loc) := Fr.nil n0
  have N5 := Fr.app N2 N5q
  obtain ⟨fs, hr, hrun, hended, hW, hsame⟩ := X5.leave (v := some (.int (0 : Int32))) (fun h => by rw [Bd.returns] at h; cases h)
  refine ⟨_, _, pre3 _ ?_, hrun, hended, _, _, rfl, ?_, ⟨_, rfl⟩, hW, hsame.mono (by decide) (by decide)⟩
  · skip
    refine st5.trans ?_
    show Steps p.tables e below (T5.setTop (mkF m 8 #[.val (.ref x)] [(.int (1 : Int32)), (.int (0 : Int32))])) _
    refine XS.icmpYes X5.here hx rfl (pc0 := 8) (pc' := 15) rfl (hb hby d10_8) rfl (XT.ii_ne_t (by decide)) (by decide) (by decide) ?_
    show Steps p.tables e below (T5.setTop (mkF m 15 #[.val (.ref x)] [])) _
    refine XS.iconst X5.here hx rfl (hb hby d10_15) ?_
    show Steps p.tables e below (T5.setTop (mkF m 16 #[.val (.ref x)] [(.int (0 : Int32))])) _
    exact retN X5 hx (t := .boolean) Bd.returns (by simp) (hb hby d10_16) hr
  · show QB Z x t k ch z0 aI aA clA h0 n0 _ T5.heap _
    rw [hh5]
    exact ⟨rfl, N5, rfl⟩
theorem d9_0 : decode prog_13_method_2_code 0 = .ok (.aload_n 0, 1) := by decide +kernel
theorem d9_1 : decode prog_13_method_2_code 1 = .ok (.ifnull 14, 3) := by decide +kernel
theorem d9_4 : decode prog_13_method_2_code 4 = .ok (.aload_n 0, 1) := by decide +kernel
theorem d9_5 : decode prog_13_method_2_code 5 = .ok (.invokevirtual 75, 3) := by decide +kernel
theorem d9_8 : decode prog_13_method_2_code 8 = .ok (.ifCond .ne 7, 3) := by decide +kernel
theorem d9_11 : decode prog_13_method_2_code 11 = .ok (.iconst 1, 1) := by decide +kernel
theorem d9_12 : decode prog_13_method_2_code 12 = .ok (.goto 4, 3) := by decide +kernel
theorem d9_16 : decode prog_13_method_2_code 16 = .ok (.ireturn, 1) := by decide +kernel
theorem pn_9 : plainName "com/example/leasehold/leasehold/LeaseRequest" = true := by first | (simp [plainName, overriddenIn]; done) | decide +kernel
theorem ef_rmVH (m : MethodId) (x0 : Addr) : entryFrame m #[(.ref x0)] 1 = mkF m 0 #[.val (.ref x0)] [] := by first | (simp [entryFrame, mkF, argsToLocals, Value.category]; done) | rfl
def QVH (Z : State) (x : Addr) (t : Addr) (k : ClassId) (ch : Int32) (z0 : Int32) (aI : Addr) (aA : Addr) (clA : Cell) (h0 : Heap) (n0 : Nat) (v : Option Value) (h : Heap) (L : List Loc) : Prop := v = some (.int (1 : Int32)) ∧ Fr n0 L ∧ h = h0
set_option maxRecDepth 65536 in
set_option maxHeartbeats 40000000 in
theorem rmVH (l : Launch) (Z : State) (a0 : Array Value) (hw : ∀ d ∈ tables_1, d.before a0 Z = true) (ws : List Jvm.Cond) (x : Addr) (t : Addr) (k : ClassId) (ch : Int32) (z0 : Int32) (aI : Addr) (aA : Addr) (clA : Cell) (h0 : Heap) (n0 : Nat) (Z0 : n0 ≤ h0.size) (S_CS : Sta Z h0 "java/lang/String" "COMPACT_STRINGS" "Z" (.int z0)) (E_x : Exa Z h0 x "java/lang/String") (Fv_x : Fld Z h0 x "java/lang/String" "value" "[B" (.ref t)) (Fc_x : Fld Z h0 x "java/lang/String" "coder" "B" (.int (0 : Int32))) (V_x : Arv Z h0 t k .byte (1 : Int32) ((([ch] : List Int32).map (fun c => c.toInt8.toInt32)).map Value.int) (.int (0 : Int32))) (S_A : Sta Z h0 "java/lang/CharacterDataLatin1" "A" "[I" (.ref aA)) (S_I : Sta Z h0 "java/lang/CharacterDataLatin1" "instance" "Ljava/lang/CharacterDataLatin1;" (.ref aI)) (E_I : Exa Z h0 aI "java/lang/CharacterDataLatin1") (Tb : Tab Z h0 aA clA .int (256 : Int32)) (hp0 : ¬ ch < 0 ∧ ¬ (255 : Int32) < ch) (hnb : ¬ (ch = (32 : Int32)) ∧ ¬ (ch = (9 : Int32)) ∧ ¬ (((atv clA ch) &&& (28672 : Int32)) = (16384 : Int32))) (hz : ¬ z0 = 0) :
    MetFree l (⟨"com/example/leasehold/leasehold/LeaseRequest", "isValidHolder", "(Ljava/lang/String;)Z"⟩ : MethodName) (head1 (Jvm.Cond.code (⟨"com/example/leasehold/leasehold/LeaseRequest", "isValidHolder", "(Ljava/lang/String;)Z"⟩ : MethodName) prog_13_method_2_code 1 (some .boolean) :: ws) ({ frames := 5, cells := 0, slots := 0, locals := 70 } : Room)) (fun ar UU => ar = #[(.ref x)] ∧ Z.Warmed39 UU.vm ∧ UU.heap = h0) (fun _ _ _ _ _ => True) (fun _ UU oo UU' => ∃ vv LL, oo = .returned vv ∧ QVH Z x t k ch z0 aI aA clA h0 n0 vv UU'.heap LL ∧ FrameEnd UU oo UU' LL ({ frames := 5, cells := 0, slots := 0, locals := 70 } : Room).cells ({ frames := 5, cells := 0, slots := 0, locals := 70 } : Room).slots) := by
  refine MetFree.of_bodySF (plainFor_of_name pn_9) hisR ?_
  intro p e s m args below meth c s₁ Bd hml0 hP hK
  obtain ⟨rfl, hZ, hh⟩ := hP
  have hx := Bd.exec
  have hby := Bd.bytes
  have hml : c.maxLocals = 1 := hml0
  have hown : s.vm.findClass "com/example/leasehold/leasehold/LeaseRequest" = some m.cls := findClass_of_methodNamed Bd.named
  have hnm := (name_of_methodNamed Bd.named Bd.method).1
  have X0 : Stand p l e ({ frames := 5, cells := 0, slots := 0, locals := 70 } : Room) s m #[(.ref x)] below meth c s₁ [] 0 0 := Stand.of_body Bd
  have e0 : s₁.heap = h0 := by rw [← hh, Bd.state]; rfl
  have N0 := Fr.nil n0
  have KC0 : Keep h0 h0 [] := Keep.refl h0 []
  have pre0 : ∀ tgt, Steps p.tables e below (s₁.setTop (mkF m 0 #[.val (.ref x)] [])) tgt → Steps p.tables e below (s₁.setTop (entryFrame m #[(.ref x)] 1)) tgt := fun tgt kk => castTop (ef_rmVH m (x)) kk
  have pre1 : ∀ tgt, Steps p.tables e below (s₁.setTop (mkF m 5 #[.val (.ref x)] [(.ref x)])) tgt → Steps p.tables e below (s₁.setTop (entryFrame m #[(.ref x)] 1)) tgt := by
    intro tgt kk
    refine pre0 tgt ?_
    refine XS.aloadN X0.here hx rfl (hb hby d9_0) rfl rfl ?_
    show Steps p.tables e below (s₁.setTop (mkF m 1 #[.val (.ref x)] [(.ref x)])) _
    refine XT.nullNo X0.here hx rfl (hb hby d9_1) rfl rfl (by intro q; cases q) ?_
    show Steps p.tables e below (s₁.setTop (mkF m 4 #[.val (.ref x)] [])) _
    refine XS.aloadN X0.here hx rfl (hb hby d9_4) rfl rfl ?_
    show Steps p.tables e below (s₁.setTop (mkF m 5 #[.val (.ref x)] [(.ref x)])) _
    exact kk
  obtain ⟨cq2, kq2, q2a, q2b, q2c⟩ := isOf hZ e0 E_x
  obtain ⟨_, _, ⟨T2, L2, k2, n2⟩, -, X2, ⟨Lc2, hQ2, l2, y2, z2⟩, st2⟩ := X0.virtualBack hx (y := (⟨"java/lang/String", "isBlank", "()Z"⟩ : MethodName)) (z := (⟨"java/lang/String", "isBlank", "()Z"⟩ : MethodName)) hown (mvT hZ (hw _ (List.mem_of_getElem? (i := 47) rfl))) (mvT hZ (hw _ (List.mem_of_getElem? (i := 48) rfl))) (notFace_of_selects (args := #[]) (mvT hZ (hw _ (List.mem_of_getElem? (i := 50) rfl)))) (mvT hZ (hw _ (List.mem_of_getElem? (i := 50) rfl))) (mvT hZ (hw _ (List.mem_of_getElem? (i := 49) rfl))) (by decide) (backOf (W := 0) (rmB l Z a0 hw [] x t k ch z0 aI aA clA h0 n0 Z0 S_CS E_x Fv_x Fc_x V_x S_A S_I E_I Tb hp0 hnb hz) hZ (hw _ (List.mem_of_getElem? (i := 51) rfl)) (hw _ (List.mem_of_getElem? (i := 10) rfl)) (by decide) (by decide)) q2a q2c (g := (mkF m 5 #[.val (.ref x)] [(.ref x)])) rfl (by rw [hml]; rfl) (Steps.refl _) (argsL := []) (rest := []) (lenOf pd___Z rfl) rfl (by show 2 * 0 + _ ≤ _; exact Nat.le_of_eq rfl) (hb hby d9_5) (fun _ _ => ⟨rfl, e0, (by decide : 0 + 0 ≤ _), (by decide : 0 + 0 ≤ _)⟩)
  dsimp only [Pt.U, Pt.locs, Pt.cells, Pt.slots] at X2 l2 y2 z2 st2 hQ2
  subst l2 y2 z2
  obtain ⟨rfl, N2q, hh2⟩ := hQ2
  have N2 := Fr.app N0 N2q
  obtain ⟨fs, hr, hrun, hended, hW, hsame⟩ := X2.leave (v := some (.int (1 : Int32))) (fun h => by rw [Bd.returns] at h; cases h)
  refine ⟨_, _, pre1 _ ?_, hrun, hended, _, _, rfl, ?_, ⟨_, rfl⟩, hW, hsame.mono (by decide) (by decide)⟩
  · skip
    refine st2.trans ?_
    show Steps p.tables e below (T2.setTop (mkF m 8 #[.val (.ref x)] [(.int (0 : Int32))])) _
    refine XS.ifNo X2.here hx rfl (hb hby d9_8) rfl (XT.i0_ne_f (by decide)) ?_
    show Steps p.tables e below (T2.setTop (mkF m 11 #[.val (.ref x)] [])) _
    refine XS.iconst X2.here hx rfl (hb hby d9_11) ?_
    show Steps p.tables e below (T2.setTop (mkF m 12 #[.val (.ref x)] [(.int (1 : Int32))])) _
    refine XS.goto X2.here hx rfl (pc0 := 12) (pc' := 16) rfl (hb hby d9_12) (by decide) (by decide) ?_
    show Steps p.tables e below (T2.setTop (mkF m 16 #[.val (.ref x)] [(.int (1 : Int32))])) _
    exact retN X2 hx (t := .boolean) Bd.returns (by simp) (hb hby d9_16) hr
  · show QVH Z x t k ch z0 aI aA clA h0 n0 _ T2.heap _
    rw [hh2]
    exact ⟨rfl, N2, rfl⟩
theorem d19_0 : decode prog_13_method_3_code 0 = .ok (.lload_n 0, 1) := by decide +kernel
theorem d19_1 : decode prog_13_method_3_code 1 = .ok (.lconst 1, 1) := by decide +kernel
theorem d19_2 : decode prog_13_method_3_code 2 = .ok (.lcmp, 1) := by decide +kernel
theorem d19_3 : decode prog_13_method_3_code 3 = .ok (.ifCond .lt 7, 3) := by decide +kernel
theorem d19_6 : decode prog_13_method_3_code 6 = .ok (.iconst 1, 1) := by decide +kernel
theorem d19_7 : decode prog_13_method_3_code 7 = .ok (.goto 4, 3) := by decide +kernel
theorem d19_11 : decode prog_13_method_3_code 11 = .ok (.ireturn, 1) := by decide +kernel
theorem pn_19 : plainName "com/example/leasehold/leasehold/LeaseRequest" = true := by first | (simp [plainName, overriddenIn]; done) | decide +kernel
theorem ef_rmVT (m : MethodId) (x0 : Int64) : entryFrame m #[(.long x0)] 2 = mkF m 0 #[.val (.long x0), .second] [] := by first | (simp [entryFrame, mkF, argsToLocals, Value.category]; done) | rfl
def QVT (Z : State) (q1 : Int64) (h0 : Heap) (n0 : Nat) (v : Option Value) (h : Heap) (L : List Loc) : Prop := v = some (.int (1 : Int32)) ∧ Fr n0 L ∧ h = h0
set_option maxRecDepth 65536 in
set_option maxHeartbeats 40000000 in
theorem rmVT (l : Launch) (Z : State) (a0 : Array Value) (hw : ∀ d ∈ tables_1, d.before a0 Z = true) (ws : List Jvm.Cond) (q1 : Int64) (h0 : Heap) (n0 : Nat) (Z0 : n0 ≤ h0.size) (hq : ¬ (q1 < (1 : Int64))) :
    MetFree l (⟨"com/example/leasehold/leasehold/LeaseRequest", "isValidTtl", "(J)Z"⟩ : MethodName) (head1 (Jvm.Cond.code (⟨"com/example/leasehold/leasehold/LeaseRequest", "isValidTtl", "(J)Z"⟩ : MethodName) prog_13_method_3_code 2 (some .boolean) :: ws) ({ frames := 0, cells := 0, slots := 0, locals := 0 } : Room)) (fun ar UU => ar = #[(.long q1)] ∧ Z.Warmed39 UU.vm ∧ UU.heap = h0) (fun _ _ _ _ _ => True) (fun _ UU oo UU' => ∃ vv LL, oo = .returned vv ∧ QVT Z q1 h0 n0 vv UU'.heap LL ∧ FrameEnd UU oo UU' LL ({ frames := 0, cells := 0, slots := 0, locals := 0 } : Room).cells ({ frames := 0, cells := 0, slots := 0, locals := 0 } : Room).slots) := by
  refine MetFree.of_bodySF (plainFor_of_name pn_19) hisR ?_
  intro p e s m args below meth c s₁ Bd hml0 hP hK
  obtain ⟨rfl, hZ, hh⟩ := hP
  have hx := Bd.exec
  have hby := Bd.bytes
  have hml : c.maxLocals = 2 := hml0
  have hown : s.vm.findClass "com/example/leasehold/leasehold/LeaseRequest" = some m.cls := findClass_of_methodNamed Bd.named
  have hnm := (name_of_methodNamed Bd.named Bd.method).1
  have X0 : Stand p l e ({ frames := 0, cells := 0, slots := 0, locals := 0 } : Room) s m #[(.long q1)] below meth c s₁ [] 0 0 := Stand.of_body Bd
  have e0 : s₁.heap = h0 := by rw [← hh, Bd.state]; rfl
  have N0 := Fr.nil n0
  have KC0 : Keep h0 h0 [] := Keep.refl h0 []
  have pre0 : ∀ tgt, Steps p.tables e below (s₁.setTop (mkF m 0 #[.val (.long q1), .second] [])) tgt → Steps p.tables e below (s₁.setTop (entryFrame m #[(.long q1)] 2)) tgt := fun tgt kk => castTop (ef_rmVT m (q1)) kk
  have hk1 : ¬ (q1 < (1 : Int64)) := hq
  obtain ⟨fs, hr, hrun, hended, hW, hsame⟩ := X0.leave (v := some (.int (1 : Int32))) (fun h => by rw [Bd.returns] at h; cases h)
  refine ⟨_, _, pre0 _ ?_, hrun, hended, _, _, rfl, ?_, ⟨_, rfl⟩, hW, hsame.mono (by decide) (by decide)⟩
  · skip
    refine XS.lloadN X0.here hx rfl (hb hby d19_0) rfl ?_
    show Steps p.tables e below (s₁.setTop (mkF m 1 #[.val (.long q1), .second] [(.long q1)])) _
    refine XS.lconst X0.here hx rfl (hb hby d19_1) ?_
    show Steps p.tables e below (s₁.setTop (mkF m 2 #[.val (.long q1), .second] [(.long (1 : Int64)), (.long q1)])) _
    refine XS.lcmp X0.here hx rfl (hb hby d19_2) rfl ?_
    show Steps p.tables e below (s₁.setTop (mkF m 3 #[.val (.long q1), .second] [(.int (lcmpW q1 (1 : Int64)))])) _
    refine XS.ifNo X0.here hx rfl (hb hby d19_3) rfl (XT.ll_lt_f hk1) ?_
    show Steps p.tables e below (s₁.setTop (mkF m 6 #[.val (.long q1), .second] [])) _
    refine XS.iconst X0.here hx rfl (hb hby d19_6) ?_
    show Steps p.tables e below (s₁.setTop (mkF m 7 #[.val (.long q1), .second] [(.int (1 : Int32))])) _
    refine XS.goto X0.here hx rfl (pc0 := 7) (pc' := 11) rfl (hb hby d19_7) (by decide) (by decide) ?_
    show Steps p.tables e below (s₁.setTop (mkF m 11 #[.val (.long q1), .second] [(.int (1 : Int32))])) _
    exact retN X0 hx (t := .boolean) Bd.returns (by simp) (hb hby d19_11) hr
  · show QVT Z q1 h0 n0 _ s₁.heap _
    rw [e0]
    exact ⟨rfl, N0, rfl⟩
theorem d20_0 : decode jdk_31_method_11_code 0 = .ok (.aload_n 0, 1) := by decide +kernel
theorem d20_1 : decode jdk_31_method_11_code 1 = .ok (.ifnonnull 12, 3) := by decide +kernel
theorem d20_13 : decode jdk_31_method_11_code 13 = .ok (.aload_n 0, 1) := by decide +kernel
theorem d20_14 : decode jdk_31_method_11_code 14 = .ok (.areturn, 1) := by decide +kernel
theorem pn_20 : plainName "java/util/Objects" = true := by first | (simp [plainName, overriddenIn]; done) | decide +kernel
theorem ef_rmNN (m : MethodId) (x0 : Addr) (x1 : Addr) : entryFrame m #[(.ref x0), (.ref x1)] 2 = mkF m 0 #[.val (.ref x0), .val (.ref x1)] [] := by first | (simp [entryFrame, mkF, argsToLocals, Value.category]; done) | rfl
def QNN (Z : State) (a : Addr) (b : Addr) (h0 : Heap) (n0 : Nat) (v : Option Value) (h : Heap) (L : List Loc) : Prop := v = some (.ref a) ∧ Fr n0 L ∧ h = h0
set_option maxRecDepth 65536 in
set_option maxHeartbeats 40000000 in
theorem rmNN (l : Launch) (Z : State) (a0 : Array Value) (hw : ∀ d ∈ tables_1, d.before a0 Z = true) (ws : List Jvm.Cond) (a : Addr) (b : Addr) (h0 : Heap) (n0 : Nat) (Z0 : n0 ≤ h0.size) :
    MetFree l (⟨"java/util/Objects", "requireNonNull", "(Ljava/lang/Object;Ljava/lang/String;)Ljava/lang/Object;"⟩ : MethodName) (head1 (Jvm.Cond.code (⟨"java/util/Objects", "requireNonNull", "(Ljava/lang/Object;Ljava/lang/String;)Ljava/lang/Object;"⟩ : MethodName) jdk_31_method_11_code 2 (some (.object "java/lang/Object")) :: ws) ({ frames := 0, cells := 0, slots := 0, locals := 0 } : Room)) (fun ar UU => ar = #[(.ref a), (.ref b)] ∧ Z.Warmed39 UU.vm ∧ UU.heap = h0) (fun _ _ _ _ _ => True) (fun _ UU oo UU' => ∃ vv LL, oo = .returned vv ∧ QNN Z a b h0 n0 vv UU'.heap LL ∧ FrameEnd UU oo UU' LL ({ frames := 0, cells := 0, slots := 0, locals := 0 } : Room).cells ({ frames := 0, cells := 0, slots := 0, locals := 0 } : Room).slots) := by
  refine MetFree.of_bodySF (plainFor_of_name pn_20) hisR ?_
  intro p e s m args below meth c s₁ Bd hml0 hP hK
  obtain ⟨rfl, hZ, hh⟩ := hP
  have hx := Bd.exec
  have hby := Bd.bytes
  have hml : c.maxLocals = 2 := hml0
  have hown : s.vm.findClass "java/util/Objects" = some m.cls := findClass_of_methodNamed Bd.named
  have hnm := (name_of_methodNamed Bd.named Bd.method).1
  have X0 : Stand p l e ({ frames := 0, cells := 0, slots := 0, locals := 0 } : Room) s m #[(.ref a), (.ref b)] below meth c s₁ [] 0 0 := Stand.of_body Bd
  have e0 : s₁.heap = h0 := by rw [← hh, Bd.state]; rfl
  have N0 := Fr.nil n0
  have KC0 : Keep h0 h0 [] := Keep.refl h0 []
  have pre0 : ∀ tgt, Steps p.tables e below (s₁.setTop (mkF m 0 #[.val (.ref a), .val (.ref b)] [])) tgt → Steps p.tables e below (s₁.setTop (entryFrame m #[(.ref a), (.ref b)] 2)) tgt := fun tgt kk => castTop (ef_rmNN m (a) (b)) kk
  obtain ⟨fs, hr, hrun, hended, hW, hsame⟩ := X0.leave (v := some (.ref a)) (fun h => by rw [Bd.returns] at h; cases h)
  refine ⟨_, _, pre0 _ ?_, hrun, hended, _, _, rfl, ?_, ⟨_, rfl⟩, hW, hsame.mono (by decide) (by decide)⟩
  · skip
    refine XS.aloadN X0.here hx rfl (hb hby d20_0) rfl rfl ?_
    show Steps p.tables e below (s₁.setTop (mkF m 1 #[.val (.ref a), .val (.ref b)] [(.ref a)])) _
    refine XT.nonnullYes X0.here hx rfl (pc0 := 1) (pc' := 13) rfl (hb hby d20_1) rfl rfl (by intro q; cases q) (by decide) (by decide) ?_
    show Steps p.tables e below (s₁.setTop (mkF m 13 #[.val (.ref a), .val (.ref b)] [])) _
    refine XS.aloadN X0.here hx rfl (hb hby d20_13) rfl rfl ?_
    show Steps p.tables e below (s₁.setTop (mkF m 14 #[.val (.ref a), .val (.ref b)] [(.ref a)])) _
    exact retOut X0 hx Bd.returns rfl (Or.inr (Or.inr (Or.inr (Or.inr ⟨rfl, rfl, rfl⟩)))) (hb hby d20_14) hr
  · show QNN Z a b h0 n0 _ s₁.heap _
    rw [e0]
    exact ⟨rfl, N0, rfl⟩
theorem d1_0 : decode jdk_29_method_66_code 0 = .ok (.lload_n 0, 1) := by decide +kernel
theorem d1_1 : decode jdk_29_method_66_code 1 = .ok (.lload_n 2, 1) := by decide +kernel
theorem d1_2 : decode jdk_29_method_66_code 2 = .ok (.lcmp, 1) := by decide +kernel
theorem d1_3 : decode jdk_29_method_66_code 3 = .ok (.ifCond .lt 7, 3) := by decide +kernel
theorem d1_6 : decode jdk_29_method_66_code 6 = .ok (.lload_n 0, 1) := by decide +kernel
theorem d1_7 : decode jdk_29_method_66_code 7 = .ok (.goto 4, 3) := by decide +kernel
theorem d1_10 : decode jdk_29_method_66_code 10 = .ok (.lload_n 2, 1) := by decide +kernel
theorem d1_11 : decode jdk_29_method_66_code 11 = .ok (.lreturn, 1) := by decide +kernel
theorem ef_rmMax (m : MethodId) (x0 : Int64) (x1 : Int64) : entryFrame m #[(.long x0), (.long x1)] 4 = mkF m 0 #[.val (.long x0), .second, .val (.long x1), .second] [] := by first | (simp [entryFrame, mkF, argsToLocals, Value.category]; done) | rfl
def QMax (Z : State) (q1 : Int64) (q2 : Int64) (h0 : Heap) (n0 : Nat) (v : Option Value) (h : Heap) (L : List Loc) : Prop := v = some (.long (if q1 < q2 then q2 else q1)) ∧ Fr n0 L ∧ h = h0
set_option maxRecDepth 65536 in
set_option maxHeartbeats 40000000 in
theorem rmMax (l : Launch) (Z : State) (a0 : Array Value) (hw : ∀ d ∈ tables_1, d.before a0 Z = true) (ws : List Jvm.Cond) (q1 : Int64) (q2 : Int64) (h0 : Heap) (n0 : Nat) (Z0 : n0 ≤ h0.size) :
    MetFree l (⟨"java/lang/Math", "max", "(JJ)J"⟩ : MethodName) (head1 (Jvm.Cond.code (⟨"java/lang/Math", "max", "(JJ)J"⟩ : MethodName) jdk_29_method_66_code 4 (some .long) :: ws) ({ frames := 0, cells := 0, slots := 0, locals := 0 } : Room)) (fun ar UU => ar = #[(.long q1), (.long q2)] ∧ Z.Warmed39 UU.vm ∧ UU.heap = h0) (fun _ _ _ _ _ => True) (fun _ UU oo UU' => ∃ vv LL, oo = .returned vv ∧ QMax Z q1 q2 h0 n0 vv UU'.heap LL ∧ FrameEnd UU oo UU' LL ({ frames := 0, cells := 0, slots := 0, locals := 0 } : Room).cells ({ frames := 0, cells := 0, slots := 0, locals := 0 } : Room).slots) := by
  refine MetFree.of_bodySF (Jvm.Free.JP.mathPlain rfl (by decide +kernel)) hisR ?_
  intro p e s m args below meth c s₁ Bd hml0 hP hK
  obtain ⟨rfl, hZ, hh⟩ := hP
  have hx := Bd.exec
  have hby := Bd.bytes
  have hml : c.maxLocals = 4 := hml0
  have hown : s.vm.findClass "java/lang/Math" = some m.cls := findClass_of_methodNamed Bd.named
  have hnm := (name_of_methodNamed Bd.named Bd.method).1
  have X0 : Stand p l e ({ frames := 0, cells := 0, slots := 0, locals := 0 } : Room) s m #[(.long q1), (.long q2)] below meth c s₁ [] 0 0 := Stand.of_body Bd
  have e0 : s₁.heap = h0 := by rw [← hh, Bd.state]; rfl
  have N0 := Fr.nil n0
  have KC0 : Keep h0 h0 [] := Keep.refl h0 []
  have pre0 : ∀ tgt, Steps p.tables e below (s₁.setTop (mkF m 0 #[.val (.long q1), .second, .val (.long q2), .second] [])) tgt → Steps p.tables e below (s₁.setTop (entryFrame m #[(.long q1), (.long q2)] 4)) tgt := fun tgt kk => castTop (ef_rmMax m (q1) (q2)) kk
  have pre1 : ∀ tgt, Steps p.tables e below (s₁.setTop (mkF m 3 #[.val (.long q1), .second, .val (.long q2), .second] [(.int (lcmpW q1 q2))])) tgt → Steps p.tables e below (s₁.setTop (entryFrame m #[(.long q1), (.long q2)] 4)) tgt := by
    intro tgt kk
    refine pre0 tgt ?_
    refine XS.lloadN X0.here hx rfl (hb hby d1_0) rfl ?_
    show Steps p.tables e below (s₁.setTop (mkF m 1 #[.val (.long q1), .second, .val (.long q2), .second] [(.long q1)])) _
    refine XS.lloadN X0.here hx rfl (hb hby d1_1) rfl ?_
    show Steps p.tables e below (s₁.setTop (mkF m 2 #[.val (.long q1), .second, .val (.long q2), .second] [(.long q2), (.long q1)])) _
    refine XS.lcmp X0.here hx rfl (hb hby d1_2) rfl ?_
    show Steps p.tables e below (s₁.setTop (mkF m 3 #[.val (.long q1), .second, .val (.long q2), .second] [(.int (lcmpW q1 q2))])) _
    exact kk
  by_cases hc3_2 : q1 < q2
  · skip
    obtain ⟨fs, hr, hrun, hended, hW, hsame⟩ := X0.leave (v := some (.long q2)) (fun h => by rw [Bd.returns] at h; cases h)
    refine ⟨_, _, pre1 _ ?_, hrun, hended, _, _, rfl, ?_, ⟨_, rfl⟩, hW, hsame.mono (by decide) (by decide)⟩
    · skip
      refine XS.ifYes X0.here hx rfl (pc0 := 3) (pc' := 10) rfl (hb hby d1_3) rfl (XT.ll_lt_t hc3_2) (by decide) (by decide) ?_
      show Steps p.tables e below (s₁.setTop (mkF m 10 #[.val (.long q1), .second, .val (.long q2), .second] [])) _
      refine XS.lloadN X0.here hx rfl (hb hby d1_10) rfl ?_
      show Steps p.tables e below (s₁.setTop (mkF m 11 #[.val (.long q1), .second, .val (.long q2), .second] [(.long q2)])) _
      exact retOut X0 hx Bd.returns rfl (Or.inr (Or.inl ⟨rfl, rfl, _, rfl⟩)) (hb hby d1_11) hr
    · show QMax Z q1 q2 h0 n0 _ s₁.heap _
      rw [e0]
      exact ⟨by simp [hc3_2], N0, rfl⟩
  · skip
    obtain ⟨fs, hr, hrun, hended, hW, hsame⟩ := X0.leave (v := some (.long q1)) (fun h => by rw [Bd.returns] at h; cases h)
    refine ⟨_, _, pre1 _ ?_, hrun, hended, _, _, rfl, ?_, ⟨_, rfl⟩, hW, hsame.mono (by decide) (by decide)⟩
    · skip
      refine XS.ifNo X0.here hx rfl (hb hby d1_3) rfl (XT.ll_lt_f hc3_2) ?_
      show Steps p.tables e below (s₁.setTop (mkF m 6 #[.val (.long q1), .second, .val (.long q2), .second] [])) _
      refine XS.lloadN X0.here hx rfl (hb hby d1_6) rfl ?_
      show Steps p.tables e below (s₁.setTop (mkF m 7 #[.val (.long q1), .second, .val (.long q2), .second] [(.long q1)])) _
      refine XS.goto X0.here hx rfl (pc0 := 7) (pc' := 11) rfl (hb hby d1_7) (by decide) (by decide) ?_
      show Steps p.tables e below (s₁.setTop (mkF m 11 #[.val (.long q1), .second, .val (.long q2), .second] [(.long q1)])) _
      exact retOut X0 hx Bd.returns rfl (Or.inr (Or.inl ⟨rfl, rfl, _, rfl⟩)) (hb hby d1_11) hr
    · show QMax Z q1 q2 h0 n0 _ s₁.heap _
      rw [e0]
      exact ⟨by simp [hc3_2], N0, rfl⟩
theorem d8_0 : decode prog_13_method_1_code 0 = .ok (.aload_n 0, 1) := by decide +kernel
theorem d8_1 : decode prog_13_method_1_code 1 = .ok (.invokespecial 1, 3) := by decide +kernel
theorem d8_4 : decode prog_13_method_1_code 4 = .ok (.aload_n 1, 1) := by decide +kernel
theorem d8_5 : decode prog_13_method_1_code 5 = .ok (.invokestatic 7, 3) := by decide +kernel
theorem d8_8 : decode prog_13_method_1_code 8 = .ok (.ifCond .ne 13, 3) := by decide +kernel
theorem d8_21 : decode prog_13_method_1_code 21 = .ok (.lload 8, 2) := by decide +kernel
theorem d8_23 : decode prog_13_method_1_code 23 = .ok (.invokestatic 20, 3) := by decide +kernel
theorem d8_26 : decode prog_13_method_1_code 26 = .ok (.ifCond .ne 28, 3) := by decide +kernel
theorem d8_54 : decode prog_13_method_1_code 54 = .ok (.aload_n 0, 1) := by decide +kernel
theorem d8_55 : decode prog_13_method_1_code 55 = .ok (.aload_n 1, 1) := by decide +kernel
theorem d8_56 : decode prog_13_method_1_code 56 = .ok (.putfield 38, 3) := by decide +kernel
theorem d8_59 : decode prog_13_method_1_code 59 = .ok (.aload_n 0, 1) := by decide +kernel
theorem d8_60 : decode prog_13_method_1_code 60 = .ok (.aload_n 2, 1) := by decide +kernel
theorem d8_61 : decode prog_13_method_1_code 61 = .ok (.ldc 42, 2) := by decide +kernel
theorem d8_63 : decode prog_13_method_1_code 63 = .ok (.invokestatic 44, 3) := by decide +kernel
theorem d8_66 : decode prog_13_method_1_code 66 = .ok (.checkcast 33, 3) := by decide +kernel
theorem d8_69 : decode prog_13_method_1_code 69 = .ok (.putfield 50, 3) := by decide +kernel
theorem d8_72 : decode prog_13_method_1_code 72 = .ok (.aload_n 0, 1) := by decide +kernel
theorem d8_73 : decode prog_13_method_1_code 73 = .ok (.aload_n 3, 1) := by decide +kernel
theorem d8_74 : decode prog_13_method_1_code 74 = .ok (.ldc 53, 2) := by decide +kernel
theorem d8_76 : decode prog_13_method_1_code 76 = .ok (.invokestatic 44, 3) := by decide +kernel
theorem d8_79 : decode prog_13_method_1_code 79 = .ok (.checkcast 33, 3) := by decide +kernel
theorem d8_82 : decode prog_13_method_1_code 82 = .ok (.putfield 55, 3) := by decide +kernel
theorem d8_85 : decode prog_13_method_1_code 85 = .ok (.aload_n 0, 1) := by decide +kernel
theorem d8_86 : decode prog_13_method_1_code 86 = .ok (.aload 4, 2) := by decide +kernel
theorem d8_88 : decode prog_13_method_1_code 88 = .ok (.ldc 58, 2) := by decide +kernel
theorem d8_90 : decode prog_13_method_1_code 90 = .ok (.invokestatic 44, 3) := by decide +kernel
theorem d8_93 : decode prog_13_method_1_code 93 = .ok (.checkcast 33, 3) := by decide +kernel
theorem d8_96 : decode prog_13_method_1_code 96 = .ok (.putfield 60, 3) := by decide +kernel
theorem d8_99 : decode prog_13_method_1_code 99 = .ok (.aload_n 0, 1) := by decide +kernel
theorem d8_100 : decode prog_13_method_1_code 100 = .ok (.aload 5, 2) := by decide +kernel
theorem d8_102 : decode prog_13_method_1_code 102 = .ok (.ldc 63, 2) := by decide +kernel
theorem d8_104 : decode prog_13_method_1_code 104 = .ok (.invokestatic 44, 3) := by decide +kernel
theorem d8_107 : decode prog_13_method_1_code 107 = .ok (.checkcast 33, 3) := by decide +kernel
theorem d8_110 : decode prog_13_method_1_code 110 = .ok (.putfield 65, 3) := by decide +kernel
theorem d8_113 : decode prog_13_method_1_code 113 = .ok (.aload_n 0, 1) := by decide +kernel
theorem d8_114 : decode prog_13_method_1_code 114 = .ok (.lload 6, 2) := by decide +kernel
theorem d8_116 : decode prog_13_method_1_code 116 = .ok (.putfield 68, 3) := by decide +kernel
theorem d8_119 : decode prog_13_method_1_code 119 = .ok (.aload_n 0, 1) := by decide +kernel
theorem d8_120 : decode prog_13_method_1_code 120 = .ok (.lload 8, 2) := by decide +kernel
theorem d8_122 : decode prog_13_method_1_code 122 = .ok (.putfield 72, 3) := by decide +kernel
theorem d8_125 : decode prog_13_method_1_code 125 = .ok (.return_, 1) := by decide +kernel
theorem pn_8 : plainName "com/example/leasehold/leasehold/LeaseRequest" = true := by first | (simp [plainName, overriddenIn]; done) | decide +kernel
theorem pd__Ljava_lang_String__Z : parseMethodDescriptor "(Ljava/lang/String;)Z" = some ⟨[(.object "java/lang/String")], some .boolean⟩ := by decide +kernel
theorem pd__J_Z : parseMethodDescriptor "(J)Z" = some ⟨[.long], some .boolean⟩ := by decide +kernel
theorem pd__Ljava_lang_Object_Ljava_lang_String__Ljava_lang_Object_ : parseMethodDescriptor "(Ljava/lang/Object;Ljava/lang/String;)Ljava/lang/Object;" = some ⟨[(.object "java/lang/Object"), (.object "java/lang/String")], some (.object "java/lang/Object")⟩ := by decide +kernel
theorem ef_rmC (m : MethodId) (x0 : Addr) (x1 : Addr) (x2 : Addr) (x3 : Addr) (x4 : Addr) (x5 : Addr) (x6 : Int64) (x7 : Int64) : entryFrame m #[(.ref x0), (.ref x1), (.ref x2), (.ref x3), (.ref x4), (.ref x5), (.long x6), (.long x7)] 10 = mkF m 0 #[.val (.ref x0), .val (.ref x1), .val (.ref x2), .val (.ref x3), .val (.ref x4), .val (.ref x5), .val (.long x6), .second, .val (.long x7), .second] [] := by first | (simp [entryFrame, mkF, argsToLocals, Value.category]; done) | rfl
def QC (Z : State) (a : Addr) (x : Addr) (t : Addr) (k : ClassId) (ch : Int32) (z0 : Int32) (aI : Addr) (aA : Addr) (clA : Cell) (y1 : Addr) (y2 : Addr) (y3 : Addr) (y4 : Addr) (q1 : Int64) (q2 : Int64) (h0 : Heap) (n0 : Nat) (v : Option Value) (h : Heap) (L : List Loc) : Prop := v = none ∧ Fr n0 L ∧ Keep h0 h [a] ∧ Fld Z h a "com/example/leasehold/leasehold/LeaseRequest" "holder" "Ljava/lang/String;" (.ref x) ∧ Fld Z h a "com/example/leasehold/leasehold/LeaseRequest" "actor" "Ljava/lang/String;" (.ref y1) ∧ Fld Z h a "com/example/leasehold/leasehold/LeaseRequest" "intent" "Ljava/lang/String;" (.ref y2) ∧ Fld Z h a "com/example/leasehold/leasehold/LeaseRequest" "intentVersion" "Ljava/lang/String;" (.ref y3) ∧ Fld Z h a "com/example/leasehold/leasehold/LeaseRequest" "hostId" "Ljava/lang/String;" (.ref y4) ∧ Fld Z h a "com/example/leasehold/leasehold/LeaseRequest" "pid" "J" (.long q1) ∧ Fld Z h a "com/example/leasehold/leasehold/LeaseRequest" "ttlSeconds" "J" (.long q2)
set_option maxRecDepth 65536 in
set_option maxHeartbeats 40000000 in
theorem rmC (l : Launch) (Z : State) (a0 : Array Value) (hw : ∀ d ∈ tables_1, d.before a0 Z = true) (ws : List Jvm.Cond) (a : Addr) (x : Addr) (t : Addr) (k : ClassId) (ch : Int32) (z0 : Int32) (aI : Addr) (aA : Addr) (clA : Cell) (y1 : Addr) (y2 : Addr) (y3 : Addr) (y4 : Addr) (q1 : Int64) (q2 : Int64) (h0 : Heap) (n0 : Nat) (Z0 : n0 ≤ h0.size) (E_a : Exa Z h0 a "com/example/leasehold/leasehold/LeaseRequest") (F_0 : Fld Z h0 a "com/example/leasehold/leasehold/LeaseRequest" "holder" "Ljava/lang/String;" .null) (F_1 : Fld Z h0 a "com/example/leasehold/leasehold/LeaseRequest" "actor" "Ljava/lang/String;" .null) (F_2 : Fld Z h0 a "com/example/leasehold/leasehold/LeaseRequest" "intent" "Ljava/lang/String;" .null) (F_3 : Fld Z h0 a "com/example/leasehold/leasehold/LeaseRequest" "intentVersion" "Ljava/lang/String;" .null) (F_4 : Fld Z h0 a "com/example/leasehold/leasehold/LeaseRequest" "hostId" "Ljava/lang/String;" .null) (F_5 : Fld Z h0 a "com/example/leasehold/leasehold/LeaseRequest" "pid" "J" (.long (0 : Int64))) (F_6 : Fld Z h0 a "com/example/leasehold/leasehold/LeaseRequest" "ttlSeconds" "J" (.long (0 : Int64))) (S_CS : Sta Z h0 "java/lang/String" "COMPACT_STRINGS" "Z" (.int z0)) (E_x : Exa Z h0 x "java/lang/String") (Fv_x : Fld Z h0 x "java/lang/String" "value" "[B" (.ref t)) (Fc_x : Fld Z h0 x "java/lang/String" "coder" "B" (.int (0 : Int32))) (V_x : Arv Z h0 t k .byte (1 : Int32) ((([ch] : List Int32).map (fun c => c.toInt8.toInt32)).map Value.int) (.int (0 : Int32))) (S_A : Sta Z h0 "java/lang/CharacterDataLatin1" "A" "[I" (.ref aA)) (S_I : Sta Z h0 "java/lang/CharacterDataLatin1" "instance" "Ljava/lang/CharacterDataLatin1;" (.ref aI)) (E_I : Exa Z h0 aI "java/lang/CharacterDataLatin1") (Tb : Tab Z h0 aA clA .int (256 : Int32)) (hp0 : ¬ ch < 0 ∧ ¬ (255 : Int32) < ch) (hnb : ¬ (ch = (32 : Int32)) ∧ ¬ (ch = (9 : Int32)) ∧ ¬ (((atv clA ch) &&& (28672 : Int32)) = (16384 : Int32))) (hz : ¬ z0 = 0) (E_y1 : Exa Z h0 y1 "java/lang/String") (E_y2 : Exa Z h0 y2 "java/lang/String") (E_y3 : Exa Z h0 y3 "java/lang/String") (E_y4 : Exa Z h0 y4 "java/lang/String") (g_a : n0 ≤ a) (hq : ¬ (q2 < (1 : Int64))) :
    MetFree l (⟨"com/example/leasehold/leasehold/LeaseRequest", "<init>", "(Ljava/lang/String;Ljava/lang/String;Ljava/lang/String;Ljava/lang/String;Ljava/lang/String;JJ)V"⟩ : MethodName) (head1 (Jvm.Cond.code (⟨"com/example/leasehold/leasehold/LeaseRequest", "<init>", "(Ljava/lang/String;Ljava/lang/String;Ljava/lang/String;Ljava/lang/String;Ljava/lang/String;JJ)V"⟩ : MethodName) prog_13_method_1_code 10 none :: ws) ({ frames := 6, cells := 8, slots := 416, locals := 82 } : Room)) (fun ar UU => ar = #[(.ref a), (.ref x), (.ref y1), (.ref y2), (.ref y3), (.ref y4), (.long q1), (.long q2)] ∧ Z.Warmed39 UU.vm ∧ UU.heap = h0 ∧ CHv Z own_EL UU.vm h0) (fun _ _ _ _ _ => True) (fun _ UU oo UU' => ∃ vv LL, oo = .returned vv ∧ QC Z a x t k ch z0 aI aA clA y1 y2 y3 y4 q1 q2 h0 n0 vv UU'.heap LL ∧ CHr Z own_EL UU.vm UU.heap UU'.vm UU'.heap ∧ ReturnedEndW UU oo UU' LL ({ frames := 6, cells := 8, slots := 416, locals := 82 } : Room).cells ({ frames := 6, cells := 8, slots := 416, locals := 82 } : Room).slots) := by
  refine MetFree.of_bodySF (plainFor_of_name pn_8) hisR ?_
  intro p e s m args below meth c s₁ Bd hml0 hP hK
  obtain ⟨rfl, hZ, hh, hCv⟩ := hP
  have hx := Bd.exec
  have hby := Bd.bytes
  have hml : c.maxLocals = 10 := hml0
  have hown : s.vm.findClass "com/example/leasehold/leasehold/LeaseRequest" = some m.cls := findClass_of_methodNamed Bd.named
  have hnm := (name_of_methodNamed Bd.named Bd.method).1
  have X0 : Stand p l e ({ frames := 6, cells := 8, slots := 416, locals := 82 } : Room) s m #[(.ref a), (.ref x), (.ref y1), (.ref y2), (.ref y3), (.ref y4), (.long q1), (.long q2)] below meth c s₁ [] 0 0 := Stand.of_body Bd
  have e0 : s₁.heap = h0 := by rw [← hh, Bd.state]; rfl
  have N0 := Fr.nil n0
  have hEL : EW Z a0 own_EL := own_EW hw
  have CH0 : CHr Z own_EL s.vm h0 s.vm h0 := CHr.refl hCv
  have KC0 : Keep h0 h0 [a] := Keep.refl h0 [a]
  have pre0 : ∀ tgt, Steps p.tables e below (s₁.setTop (mkF m 0 #[.val (.ref a), .val (.ref x), .val (.ref y1), .val (.ref y2), .val (.ref y3), .val (.ref y4), .val (.long q1), .second, .val (.long q2), .second] [])) tgt → Steps p.tables e below (s₁.setTop (entryFrame m #[(.ref a), (.ref x), (.ref y1), (.ref y2), (.ref y3), (.ref y4), (.long q1), (.long q2)] 10)) tgt := fun tgt kk => castTop (ef_rmC m (a) (x) (y1) (y2) (y3) (y4) (q1) (q2)) kk
  have pre1 : ∀ tgt, Steps p.tables e below (s₁.setTop (mkF m 1 #[.val (.ref a), .val (.ref x), .val (.ref y1), .val (.ref y2), .val (.ref y3), .val (.ref y4), .val (.long q1), .second, .val (.long q2), .second] [(.ref a)])) tgt → Steps p.tables e below (s₁.setTop (entryFrame m #[(.ref a), (.ref x), (.ref y1), (.ref y2), (.ref y3), (.ref y4), (.long q1), (.long q2)] 10)) tgt := by
    intro tgt kk
    refine pre0 tgt ?_
    refine XS.aloadN X0.here hx rfl (hb hby d8_0) rfl rfl ?_
    show Steps p.tables e below (s₁.setTop (mkF m 1 #[.val (.ref a), .val (.ref x), .val (.ref y1), .val (.ref y2), .val (.ref y3), .val (.ref y4), .val (.long q1), .second, .val (.long q2), .second] [(.ref a)])) _
    exact kk
  obtain ⟨T2, X2, e2, st2⟩ := initO X0 hx hZ hown (hw _ (List.mem_of_getElem? (i := 43) rfl)) (hw _ (List.mem_of_getElem? (i := 28) rfl)) (hw _ (List.mem_of_getElem? (i := 29) rfl)) e0 (g := (mkF m 1 #[.val (.ref a), .val (.ref x), .val (.ref y1), .val (.ref y2), .val (.ref y3), .val (.ref y4), .val (.long q1), .second, .val (.long q2), .second] [(.ref a)])) rfl (by rw [hml]; rfl) rfl (hb hby d8_1) (by decide) (W := 0) (by show 2 * 0 + _ ≤ _; exact Nat.le_of_eq rfl) (by decide)
  have pre3 : ∀ tgt, Steps p.tables e below (T2.setTop (mkF m 5 #[.val (.ref a), .val (.ref x), .val (.ref y1), .val (.ref y2), .val (.ref y3), .val (.ref y4), .val (.long q1), .second, .val (.long q2), .second] [(.ref x)])) tgt → Steps p.tables e below (s₁.setTop (entryFrame m #[(.ref a), (.ref x), (.ref y1), (.ref y2), (.ref y3), (.ref y4), (.long q1), (.long q2)] 10)) tgt := by
    intro tgt kk
    refine pre1 tgt ?_
    refine st2 _ ?_
    show Steps p.tables e below (T2.setTop (mkF m 4 #[.val (.ref a), .val (.ref x), .val (.ref y1), .val (.ref y2), .val (.ref y3), .val (.ref y4), .val (.long q1), .second, .val (.long q2), .second] [])) _
    refine XS.aloadN X2.here hx rfl (hb hby d8_4) rfl rfl ?_
    show Steps p.tables e below (T2.setTop (mkF m 5 #[.val (.ref a), .val (.ref x), .val (.ref y1), .val (.ref y2), .val (.ref y3), .val (.ref y4), .val (.long q1), .second, .val (.long q2), .second] [(.ref x)])) _
    exact kk
  obtain ⟨_, _, ⟨T4, L4, k4, n4⟩, -, X4, ⟨Lc4, hQ4, l4, y4, z4⟩, st4⟩ := Jvm.LawKit.callS X2 hx (y := (⟨"com/example/leasehold/leasehold/LeaseRequest", "isValidHolder", "(Ljava/lang/String;)Z"⟩ : MethodName)) hown (mvT hZ (hw _ (List.mem_of_getElem? (i := 44) rfl))) (mvT hZ (hw _ (List.mem_of_getElem? (i := 45) rfl))) (mvT hZ (hw _ (List.mem_of_getElem? (i := 36) rfl))) (mvT hZ (hw _ (List.mem_of_getElem? (i := 46) rfl))) (by decide) (backOf (W := 0) (rmVH l Z a0 hw [] x t k ch z0 aI aA clA h0 n0 Z0 S_CS E_x Fv_x Fc_x V_x S_A S_I E_I Tb hp0 hnb hz) hZ (hw _ (List.mem_of_getElem? (i := 46) rfl)) (hw _ (List.mem_of_getElem? (i := 36) rfl)) (by decide) (by decide)) (g := (mkF m 5 #[.val (.ref a), .val (.ref x), .val (.ref y1), .val (.ref y2), .val (.ref y3), .val (.ref y4), .val (.long q1), .second, .val (.long q2), .second] [(.ref x)])) rfl (by rw [hml]; rfl) (argsL := [(.ref x)]) (rest := []) (lenOf pd__Ljava_lang_String__Z rfl) rfl (by show 2 * 0 + _ ≤ _; exact Nat.le_of_eq rfl) (hb hby d8_5) (fun _ _ => ⟨rfl, e2, (by decide : 0 + 0 ≤ _), (by decide : 0 + 0 ≤ _)⟩)
  dsimp only [Pt.U, Pt.locs, Pt.cells, Pt.slots] at X4 l4 y4 z4 st4 hQ4
  subst l4 y4 z4
  obtain ⟨rfl, N4q, hh4⟩ := hQ4
  have N4 := Fr.app N0 N4q
  have pre5 : ∀ tgt, Steps p.tables e below (T4.setTop (mkF m 23 #[.val (.ref a), .val (.ref x), .val (.ref y1), .val (.ref y2), .val (.ref y3), .val (.ref y4), .val (.long q1), .second, .val (.long q2), .second] [(.long q2)])) tgt → Steps p.tables e below (s₁.setTop (entryFrame m #[(.ref a), (.ref x), (.ref y1), (.ref y2), (.ref y3), (.ref y4), (.long q1), (.long q2)] 10)) tgt := by
    intro tgt kk
    refine pre3 tgt ?_
    refine st4 _ ?_
    show Steps p.tables e below (T4.setTop (mkF m 8 #[.val (.ref a), .val (.ref x), .val (.ref y1), .val (.ref y2), .val (.ref y3), .val (.ref y4), .val (.long q1), .second, .val (.long q2), .second] [(.int (1 : Int32))])) _
    refine XS.ifYes X4.here hx rfl (pc0 := 8) (pc' := 21) rfl (hb hby d8_8) rfl (XT.i0_ne_t (by decide)) (by decide) (by decide) ?_
    show Steps p.tables e below (T4.setTop (mkF m 21 #[.val (.ref a), .val (.ref x), .val (.ref y1), .val (.ref y2), .val (.ref y3), .val (.ref y4), .val (.long q1), .second, .val (.long q2), .second] [])) _
    refine XS.lload X4.here hx rfl (hb hby d8_21) rfl ?_
    show Steps p.tables e below (T4.setTop (mkF m 23 #[.val (.ref a), .val (.ref x), .val (.ref y1), .val (.ref y2), .val (.ref y3), .val (.ref y4), .val (.long q1), .second, .val (.long q2), .second] [(.long q2)])) _
    exact kk
  obtain ⟨_, _, ⟨T6, L6, k6, n6⟩, -, X6, ⟨Lc6, hQ6, l6, y6, z6⟩, st6⟩ := Jvm.LawKit.callS X4 hx (y := (⟨"com/example/leasehold/leasehold/LeaseRequest", "isValidTtl", "(J)Z"⟩ : MethodName)) hown (mvT hZ (hw _ (List.mem_of_getElem? (i := 91) rfl))) (mvT hZ (hw _ (List.mem_of_getElem? (i := 92) rfl))) (mvT hZ (hw _ (List.mem_of_getElem? (i := 36) rfl))) (mvT hZ (hw _ (List.mem_of_getElem? (i := 93) rfl))) (by decide) (backOf (W := 0) (rmVT l Z a0 hw [] q2 h0 n0 Z0 hq) hZ (hw _ (List.mem_of_getElem? (i := 93) rfl)) (hw _ (List.mem_of_getElem? (i := 36) rfl)) (by decide) (by decide)) (g := (mkF m 23 #[.val (.ref a), .val (.ref x), .val (.ref y1), .val (.ref y2), .val (.ref y3), .val (.ref y4), .val (.long q1), .second, .val (.long q2), .second] [(.long q2)])) rfl (by rw [hml]; rfl) (argsL := [(.long q2)]) (rest := []) (lenOf pd__J_Z rfl) rfl (by show 2 * 0 + _ ≤ _; exact Nat.le_of_eq rfl) (hb hby d8_23) (fun _ _ => ⟨rfl, hh4, (by decide : 0 + 0 ≤ _), (by decide : 0 + 0 ≤ _)⟩)
  dsimp only [Pt.U, Pt.locs, Pt.cells, Pt.slots] at X6 l6 y6 z6 st6 hQ6
  subst l6 y6 z6
  obtain ⟨rfl, N6q, hh6⟩ := hQ6
  have N6 := Fr.app N4 N6q
  have pre7 : ∀ tgt, Steps p.tables e below (T6.setTop (mkF m 56 #[.val (.ref a), .val (.ref x), .val (.ref y1), .val (.ref y2), .val (.ref y3), .val (.ref y4), .val (.long q1), .second, .val (.long q2), .second] [(.ref x), (.ref a)])) tgt → Steps p.tables e below (s₁.setTop (entryFrame m #[(.ref a), (.ref x), (.ref y1), (.ref y2), (.ref y3), (.ref y4), (.long q1), (.long q2)] 10)) tgt := by
    intro tgt kk
    refine pre5 tgt ?_
    refine st6 _ ?_
    show Steps p.tables e below (T6.setTop (mkF m 26 #[.val (.ref a), .val (.ref x), .val (.ref y1), .val (.ref y2), .val (.ref y3), .val (.ref y4), .val (.long q1), .second, .val (.long q2), .second] [(.int (1 : Int32))])) _
    refine XS.ifYes X6.here hx rfl (pc0 := 26) (pc' := 54) rfl (hb hby d8_26) rfl (XT.i0_ne_t (by decide)) (by decide) (by decide) ?_
    show Steps p.tables e below (T6.setTop (mkF m 54 #[.val (.ref a), .val (.ref x), .val (.ref y1), .val (.ref y2), .val (.ref y3), .val (.ref y4), .val (.long q1), .second, .val (.long q2), .second] [])) _
    refine XS.aloadN X6.here hx rfl (hb hby d8_54) rfl rfl ?_
    show Steps p.tables e below (T6.setTop (mkF m 55 #[.val (.ref a), .val (.ref x), .val (.ref y1), .val (.ref y2), .val (.ref y3), .val (.ref y4), .val (.long q1), .second, .val (.long q2), .second] [(.ref a)])) _
    refine XS.aloadN X6.here hx rfl (hb hby d8_55) rfl rfl ?_
    show Steps p.tables e below (T6.setTop (mkF m 56 #[.val (.ref a), .val (.ref x), .val (.ref y1), .val (.ref y2), .val (.ref y3), .val (.ref y4), .val (.long q1), .second, .val (.long q2), .second] [(.ref x), (.ref a)])) _
    exact kk
  obtain ⟨T8, h8, X8, e8, W8, st8⟩ := putF X6 hx hZ hown (host := "") (Or.inl (hw _ (List.mem_of_getElem? (i := 94) rfl))) Via.refl hh6 F_0 E_a (Or.inr ⟨(hw _ (List.mem_of_getElem? (i := 95) rfl)), rfl, hnm⟩) (hw _ (List.mem_of_getElem? (i := 35) rfl)) (ty := (.object "java/lang/String")) (by decide) rfl rfl (g := (mkF m 56 #[.val (.ref a), .val (.ref x), .val (.ref y1), .val (.ref y2), .val (.ref y3), .val (.ref y4), .val (.long q1), .second, .val (.long q2), .second] [(.ref x), (.ref a)])) rfl rfl (hb hby d8_56)
  have N8 := Fr.snoc X8 N6 g_a
  have Fq8 : Fld Z h8 a "com/example/leasehold/leasehold/LeaseRequest" "holder" "Ljava/lang/String;" (.ref x) := F_0.same W8
  have CA9 : CHr Z own_EL s.vm h0 s.vm h8 := CHr.wr W8 (Safe.exa hZ.alike E_a (by decide) (by decide)) CH0.1
  have CH9 : CHr Z own_EL s.vm h0 s.vm h8 := CH0.trans CA9
  have E_a : Exa Z h8 a "com/example/leasehold/leasehold/LeaseRequest" := E_a.wr W8
  have F_1 : Fld Z h8 a "com/example/leasehold/leasehold/LeaseRequest" "actor" "Ljava/lang/String;" .null := F_1.other W8 (Or.inr (slot_ne (Or.inr (hw _ (List.mem_of_getElem? (i := 103) rfl))) (Or.inr (hw _ (List.mem_of_getElem? (i := 95) rfl))) (by decide) (t := (.object "java/lang/String")) (t' := (.object "java/lang/String")) (by decide) (by decide)))
  have F_2 : Fld Z h8 a "com/example/leasehold/leasehold/LeaseRequest" "intent" "Ljava/lang/String;" .null := F_2.other W8 (Or.inr (slot_ne (Or.inr (hw _ (List.mem_of_getElem? (i := 106) rfl))) (Or.inr (hw _ (List.mem_of_getElem? (i := 95) rfl))) (by decide) (t := (.object "java/lang/String")) (t' := (.object "java/lang/String")) (by decide) (by decide)))
  have F_3 : Fld Z h8 a "com/example/leasehold/leasehold/LeaseRequest" "intentVersion" "Ljava/lang/String;" .null := F_3.other W8 (Or.inr (slot_ne (Or.inr (hw _ (List.mem_of_getElem? (i := 109) rfl))) (Or.inr (hw _ (List.mem_of_getElem? (i := 95) rfl))) (by decide) (t := (.object "java/lang/String")) (t' := (.object "java/lang/String")) (by decide) (by decide)))
  have F_4 : Fld Z h8 a "com/example/leasehold/leasehold/LeaseRequest" "hostId" "Ljava/lang/String;" .null := F_4.other W8 (Or.inr (slot_ne (Or.inr (hw _ (List.mem_of_getElem? (i := 112) rfl))) (Or.inr (hw _ (List.mem_of_getElem? (i := 95) rfl))) (by decide) (t := (.object "java/lang/String")) (t' := (.object "java/lang/String")) (by decide) (by decide)))
  have F_5 : Fld Z h8 a "com/example/leasehold/leasehold/LeaseRequest" "pid" "J" (.long (0 : Int64)) := F_5.other W8 (Or.inr (slot_ne (Or.inr (hw _ (List.mem_of_getElem? (i := 114) rfl))) (Or.inr (hw _ (List.mem_of_getElem? (i := 95) rfl))) (by decide) (t := .long) (t' := (.object "java/lang/String")) (by decide) (by decide)))
  have F_6 : Fld Z h8 a "com/example/leasehold/leasehold/LeaseRequest" "ttlSeconds" "J" (.long (0 : Int64)) := F_6.other W8 (Or.inr (slot_ne (Or.inr (hw _ (List.mem_of_getElem? (i := 116) rfl))) (Or.inr (hw _ (List.mem_of_getElem? (i := 95) rfl))) (by decide) (t := .long) (t' := (.object "java/lang/String")) (by decide) (by decide)))
  have E_x : Exa Z h8 x "java/lang/String" := E_x.wr W8
  have E_y1 : Exa Z h8 y1 "java/lang/String" := E_y1.wr W8
  have E_y2 : Exa Z h8 y2 "java/lang/String" := E_y2.wr W8
  have E_y3 : Exa Z h8 y3 "java/lang/String" := E_y3.wr W8
  have E_y4 : Exa Z h8 y4 "java/lang/String" := E_y4.wr W8
  have Zs10 : n0 ≤ h8.size := Nat.le_trans Z0 (Keep.of_wr W8).1
  have KC10 : Keep h0 h8 [a] := KC0.wr W8 (Or.inl (List.mem_of_getElem? (i := 0) rfl))
  have F_0 := Fq8
  have pre11 : ∀ tgt, Steps p.tables e below (T8.setTop (mkF m 61 #[.val (.ref a), .val (.ref x), .val (.ref y1), .val (.ref y2), .val (.ref y3), .val (.ref y4), .val (.long q1), .second, .val (.long q2), .second] [(.ref y1), (.ref a)])) tgt → Steps p.tables e below (s₁.setTop (entryFrame m #[(.ref a), (.ref x), (.ref y1), (.ref y2), (.ref y3), (.ref y4), (.long q1), (.long q2)] 10)) tgt := by
    intro tgt kk
    refine pre7 tgt ?_
    refine st8 _ ?_
    show Steps p.tables e below (T8.setTop (mkF m 59 #[.val (.ref a), .val (.ref x), .val (.ref y1), .val (.ref y2), .val (.ref y3), .val (.ref y4), .val (.long q1), .second, .val (.long q2), .second] [])) _
    refine XS.aloadN X8.here hx rfl (hb hby d8_59) rfl rfl ?_
    show Steps p.tables e below (T8.setTop (mkF m 60 #[.val (.ref a), .val (.ref x), .val (.ref y1), .val (.ref y2), .val (.ref y3), .val (.ref y4), .val (.long q1), .second, .val (.long q2), .second] [(.ref a)])) _
    refine XS.aloadN X8.here hx rfl (hb hby d8_60) rfl rfl ?_
    show Steps p.tables e below (T8.setTop (mkF m 61 #[.val (.ref a), .val (.ref x), .val (.ref y1), .val (.ref y2), .val (.ref y3), .val (.ref y4), .val (.long q1), .second, .val (.long q2), .second] [(.ref y1), (.ref a)])) _
    exact kk
  have hwS : ∀ d ∈ Bundle.stringAtoms, d.before a0 Z = true := fun d hd => hw d ((by decide +kernel : ∀ d ∈ Bundle.stringAtoms, d ∈ tables_1) d hd)
  obtain ⟨lit12, T12, h12, k12, X12, e12, E12, hS12, hkl12, hZ, hown, CL12, -, st12⟩ := ldcOH (s := s) (vm0 := s.vm) X8 hx hZ hown (hw _ (List.mem_of_getElem? (i := 96) rfl)) hwS e8 (k0 := 0) ((State.WarmedH.refl s).since 0) (Nat.zero_le _) hEL CH9.1 (g := (mkF m 61 #[.val (.ref a), .val (.ref x), .val (.ref y1), .val (.ref y2), .val (.ref y3), .val (.ref y4), .val (.long q1), .second, .val (.long q2), .second] [(.ref y1), (.ref a)])) rfl (hb hby d8_61) (n := 88) (by decide +kernel) (by decide) (by decide) (by decide)
  have CH13 : CHr Z own_EL s.vm h0 T12.vm h12 := CH9.trans CL12
  have E_a : Exa Z h12 a "com/example/leasehold/leasehold/LeaseRequest" := E_a.ext E12
  have F_1 : Fld Z h12 a "com/example/leasehold/leasehold/LeaseRequest" "actor" "Ljava/lang/String;" .null := F_1.ext E12
  have F_2 : Fld Z h12 a "com/example/leasehold/leasehold/LeaseRequest" "intent" "Ljava/lang/String;" .null := F_2.ext E12
  have F_3 : Fld Z h12 a "com/example/leasehold/leasehold/LeaseRequest" "intentVersion" "Ljava/lang/String;" .null := F_3.ext E12
  have F_4 : Fld Z h12 a "com/example/leasehold/leasehold/LeaseRequest" "hostId" "Ljava/lang/String;" .null := F_4.ext E12
  have F_5 : Fld Z h12 a "com/example/leasehold/leasehold/LeaseRequest" "pid" "J" (.long (0 : Int64)) := F_5.ext E12
  have F_6 : Fld Z h12 a "com/example/leasehold/leasehold/LeaseRequest" "ttlSeconds" "J" (.long (0 : Int64)) := F_6.ext E12
  have E_x : Exa Z h12 x "java/lang/String" := E_x.ext E12
  have E_y1 : Exa Z h12 y1 "java/lang/String" := E_y1.ext E12
  have E_y2 : Exa Z h12 y2 "java/lang/String" := E_y2.ext E12
  have E_y3 : Exa Z h12 y3 "java/lang/String" := E_y3.ext E12
  have E_y4 : Exa Z h12 y4 "java/lang/String" := E_y4.ext E12
  have F_0 : Fld Z h12 a "com/example/leasehold/leasehold/LeaseRequest" "holder" "Ljava/lang/String;" (.ref x) := F_0.ext E12
  have Zs14 : n0 ≤ h12.size := Nat.le_trans Zs10 E12.1
  have KC14 : Keep h0 h12 [a] := KC10.ext E12
  have pre15 : ∀ tgt, Steps p.tables e below (T12.setTop (mkF m 63 #[.val (.ref a), .val (.ref x), .val (.ref y1), .val (.ref y2), .val (.ref y3), .val (.ref y4), .val (.long q1), .second, .val (.long q2), .second] [(.ref lit12), (.ref y1), (.ref a)])) tgt → Steps p.tables e below (s₁.setTop (entryFrame m #[(.ref a), (.ref x), (.ref y1), (.ref y2), (.ref y3), (.ref y4), (.long q1), (.long q2)] 10)) tgt := by
    intro tgt kk
    refine pre11 tgt ?_
    refine st12 _ ?_
    show Steps p.tables e below (T12.setTop (mkF m 63 #[.val (.ref a), .val (.ref x), .val (.ref y1), .val (.ref y2), .val (.ref y3), .val (.ref y4), .val (.long q1), .second, .val (.long q2), .second] [(.ref lit12), (.ref y1), (.ref a)])) _
    exact kk
  obtain ⟨_, _, ⟨T16, L16, k16, n16⟩, -, X16, ⟨Lc16, hQ16, l16, y16, z16⟩, st16⟩ := Jvm.LawKit.callS X12 hx (y := (⟨"java/util/Objects", "requireNonNull", "(Ljava/lang/Object;Ljava/lang/String;)Ljava/lang/Object;"⟩ : MethodName)) hown (mvT hZ (hw _ (List.mem_of_getElem? (i := 97) rfl))) (mvT hZ (hw _ (List.mem_of_getElem? (i := 98) rfl))) (mvT hZ (hw _ (List.mem_of_getElem? (i := 99) rfl))) (mvT hZ (hw _ (List.mem_of_getElem? (i := 100) rfl))) (by decide) (backOf (W := 1) (rmNN l Z a0 hw [] y1 lit12 h12 n0 Zs14) hZ (hw _ (List.mem_of_getElem? (i := 100) rfl)) (hw _ (List.mem_of_getElem? (i := 99) rfl)) (by decide) (by decide)) (g := (mkF m 63 #[.val (.ref a), .val (.ref x), .val (.ref y1), .val (.ref y2), .val (.ref y3), .val (.ref y4), .val (.long q1), .second, .val (.long q2), .second] [(.ref lit12), (.ref y1), (.ref a)])) rfl (by rw [hml]; rfl) (argsL := [(.ref y1), (.ref lit12)]) (rest := [(.ref a)]) (lenOf pd__Ljava_lang_Object_Ljava_lang_String__Ljava_lang_Object_ rfl) rfl (by show 2 * 0 + _ ≤ _; exact Nat.le_of_eq rfl) (hb hby d8_63) (fun _ _ => ⟨rfl, e12, (by decide : 2 + 0 ≤ _), (by decide : 92 + 0 ≤ _)⟩)
  dsimp only [Pt.U, Pt.locs, Pt.cells, Pt.slots] at X16 l16 y16 z16 st16 hQ16
  subst l16 y16 z16
  obtain ⟨rfl, N16q, hh16⟩ := hQ16
  have N16 := Fr.app N8 N16q
  have pre17 : ∀ tgt, Steps p.tables e below (T16.setTop (mkF m 66 #[.val (.ref a), .val (.ref x), .val (.ref y1), .val (.ref y2), .val (.ref y3), .val (.ref y4), .val (.long q1), .second, .val (.long q2), .second] [(.ref y1), (.ref a)])) tgt → Steps p.tables e below (s₁.setTop (entryFrame m #[(.ref a), (.ref x), (.ref y1), (.ref y2), (.ref y3), (.ref y4), (.long q1), (.long q2)] 10)) tgt := by
    intro tgt kk
    refine pre15 tgt ?_
    refine st16 _ ?_
    show Steps p.tables e below (T16.setTop (mkF m 66 #[.val (.ref a), .val (.ref x), .val (.ref y1), .val (.ref y2), .val (.ref y3), .val (.ref y4), .val (.long q1), .second, .val (.long q2), .second] [(.ref y1), (.ref a)])) _
    exact kk
  obtain ⟨T18, X18, e18, st18⟩ := castY X16 hx hZ hown (hw _ (List.mem_of_getElem? (i := 101) rfl)) hh16 (Ins.self E_y1) (g := (mkF m 66 #[.val (.ref a), .val (.ref x), .val (.ref y1), .val (.ref y2), .val (.ref y3), .val (.ref y4), .val (.long q1), .second, .val (.long q2), .second] [(.ref y1), (.ref a)])) rfl rfl (hb hby d8_66)
  have pre19 : ∀ tgt, Steps p.tables e below (T18.setTop (mkF m 69 #[.val (.ref a), .val (.ref x), .val (.ref y1), .val (.ref y2), .val (.ref y3), .val (.ref y4), .val (.long q1), .second, .val (.long q2), .second] [(.ref y1), (.ref a)])) tgt → Steps p.tables e below (s₁.setTop (entryFrame m #[(.ref a), (.ref x), (.ref y1), (.ref y2), (.ref y3), (.ref y4), (.long q1), (.long q2)] 10)) tgt := by
    intro tgt kk
    refine pre17 tgt ?_
    refine st18 _ ?_
    show Steps p.tables e below (T18.setTop (mkF m 69 #[.val (.ref a), .val (.ref x), .val (.ref y1), .val (.ref y2), .val (.ref y3), .val (.ref y4), .val (.long q1), .second, .val (.long q2), .second] [(.ref y1), (.ref a)])) _
    exact kk
  obtain ⟨T20, h20, X20, e20, W20, st20⟩ := putF X18 hx hZ hown (host := "") (Or.inl (hw _ (List.mem_of_getElem? (i := 102) rfl))) Via.refl e18 F_1 E_a (Or.inr ⟨(hw _ (List.mem_of_getElem? (i := 103) rfl)), rfl, hnm⟩) (hw _ (List.mem_of_getElem? (i := 35) rfl)) (ty := (.object "java/lang/String")) (by decide) rfl rfl (g := (mkF m 69 #[.val (.ref a), .val (.ref x), .val (.ref y1), .val (.ref y2), .val (.ref y3), .val (.ref y4), .val (.long q1), .second, .val (.long q2), .second] [(.ref y1), (.ref a)])) rfl rfl (hb hby d8_69)
  have N20 := Fr.snoc X20 N16 g_a
  have Fq20 : Fld Z h20 a "com/example/leasehold/leasehold/LeaseRequest" "actor" "Ljava/lang/String;" (.ref y1) := F_1.same W20
  have CA21 : CHr Z own_EL T12.vm h12 T12.vm h20 := CHr.wr W20 (Safe.exa hZ.alike E_a (by decide) (by decide)) CH13.1
  have CH21 : CHr Z own_EL s.vm h0 T12.vm h20 := CH13.trans CA21
  have E_a : Exa Z h20 a "com/example/leasehold/leasehold/LeaseRequest" := E_a.wr W20
  have F_2 : Fld Z h20 a "com/example/leasehold/leasehold/LeaseRequest" "intent" "Ljava/lang/String;" .null := F_2.other W20 (Or.inr (slot_ne (Or.inr (hw _ (List.mem_of_getElem? (i := 106) rfl))) (Or.inr (hw _ (List.mem_of_getElem? (i := 103) rfl))) (by decide) (t := (.object "java/lang/String")) (t' := (.object "java/lang/String")) (by decide) (by decide)))
  have F_3 : Fld Z h20 a "com/example/leasehold/leasehold/LeaseRequest" "intentVersion" "Ljava/lang/String;" .null := F_3.other W20 (Or.inr (slot_ne (Or.inr (hw _ (List.mem_of_getElem? (i := 109) rfl))) (Or.inr (hw _ (List.mem_of_getElem? (i := 103) rfl))) (by decide) (t := (.object "java/lang/String")) (t' := (.object "java/lang/String")) (by decide) (by decide)))
  have F_4 : Fld Z h20 a "com/example/leasehold/leasehold/LeaseRequest" "hostId" "Ljava/lang/String;" .null := F_4.other W20 (Or.inr (slot_ne (Or.inr (hw _ (List.mem_of_getElem? (i := 112) rfl))) (Or.inr (hw _ (List.mem_of_getElem? (i := 103) rfl))) (by decide) (t := (.object "java/lang/String")) (t' := (.object "java/lang/String")) (by decide) (by decide)))
  have F_5 : Fld Z h20 a "com/example/leasehold/leasehold/LeaseRequest" "pid" "J" (.long (0 : Int64)) := F_5.other W20 (Or.inr (slot_ne (Or.inr (hw _ (List.mem_of_getElem? (i := 114) rfl))) (Or.inr (hw _ (List.mem_of_getElem? (i := 103) rfl))) (by decide) (t := .long) (t' := (.object "java/lang/String")) (by decide) (by decide)))
  have F_6 : Fld Z h20 a "com/example/leasehold/leasehold/LeaseRequest" "ttlSeconds" "J" (.long (0 : Int64)) := F_6.other W20 (Or.inr (slot_ne (Or.inr (hw _ (List.mem_of_getElem? (i := 116) rfl))) (Or.inr (hw _ (List.mem_of_getElem? (i := 103) rfl))) (by decide) (t := .long) (t' := (.object "java/lang/String")) (by decide) (by decide)))
  have E_x : Exa Z h20 x "java/lang/String" := E_x.wr W20
  have E_y1 : Exa Z h20 y1 "java/lang/String" := E_y1.wr W20
  have E_y2 : Exa Z h20 y2 "java/lang/String" := E_y2.wr W20
  have E_y3 : Exa Z h20 y3 "java/lang/String" := E_y3.wr W20
  have E_y4 : Exa Z h20 y4 "java/lang/String" := E_y4.wr W20
  have F_0 : Fld Z h20 a "com/example/leasehold/leasehold/LeaseRequest" "holder" "Ljava/lang/String;" (.ref x) := F_0.other W20 (Or.inr (slot_ne (Or.inr (hw _ (List.mem_of_getElem? (i := 95) rfl))) (Or.inr (hw _ (List.mem_of_getElem? (i := 103) rfl))) (by decide) (t := (.object "java/lang/String")) (t' := (.object "java/lang/String")) (by decide) (by decide)))
  have Zs22 : n0 ≤ h20.size := Nat.le_trans Zs14 (Keep.of_wr W20).1
  have hk22 : k12 ≤ h20.size := Nat.le_trans hkl12 (Keep.of_wr W20).1
  have KC22 : Keep h0 h20 [a] := KC14.wr W20 (Or.inl (List.mem_of_getElem? (i := 0) rfl))
  have F_1 := Fq20
  have pre23 : ∀ tgt, Steps p.tables e below (T20.setTop (mkF m 74 #[.val (.ref a), .val (.ref x), .val (.ref y1), .val (.ref y2), .val (.ref y3), .val (.ref y4), .val (.long q1), .second, .val (.long q2), .second] [(.ref y2), (.ref a)])) tgt → Steps p.tables e below (s₁.setTop (entryFrame m #[(.ref a), (.ref x), (.ref y1), (.ref y2), (.ref y3), (.ref y4), (.long q1), (.long q2)] 10)) tgt := by
    intro tgt kk
    refine pre19 tgt ?_
    refine st20 _ ?_
    show Steps p.tables e below (T20.setTop (mkF m 72 #[.val (.ref a), .val (.ref x), .val (.ref y1), .val (.ref y2), .val (.ref y3), .val (.ref y4), .val (.long q1), .second, .val (.long q2), .second] [])) _
    refine XS.aloadN X20.here hx rfl (hb hby d8_72) rfl rfl ?_
    show Steps p.tables e below (T20.setTop (mkF m 73 #[.val (.ref a), .val (.ref x), .val (.ref y1), .val (.ref y2), .val (.ref y3), .val (.ref y4), .val (.long q1), .second, .val (.long q2), .second] [(.ref a)])) _
    refine XS.aloadN X20.here hx rfl (hb hby d8_73) rfl rfl ?_
    show Steps p.tables e below (T20.setTop (mkF m 74 #[.val (.ref a), .val (.ref x), .val (.ref y1), .val (.ref y2), .val (.ref y3), .val (.ref y4), .val (.long q1), .second, .val (.long q2), .second] [(.ref y2), (.ref a)])) _
    exact kk
  have hwS : ∀ d ∈ Bundle.stringAtoms, d.before a0 Z = true := fun d hd => hw d ((by decide +kernel : ∀ d ∈ Bundle.stringAtoms, d ∈ tables_1) d hd)
  obtain ⟨lit24, T24, h24, k24, X24, e24, E24, hS24, hkl24, hZ, hown, CL24, -, st24⟩ := ldcOH (s := s) (vm0 := T12.vm) X20 hx hZ hown (hw _ (List.mem_of_getElem? (i := 104) rfl)) hwS e20 (k0 := k12) hS12 hk22 hEL CH21.1 (g := (mkF m 74 #[.val (.ref a), .val (.ref x), .val (.ref y1), .val (.ref y2), .val (.ref y3), .val (.ref y4), .val (.long q1), .second, .val (.long q2), .second] [(.ref y2), (.ref a)])) rfl (hb hby d8_74) (n := 92) (by decide +kernel) (by decide) (by decide) (by decide)
  have CH25 : CHr Z own_EL s.vm h0 T24.vm h24 := CH21.trans CL24
  have E_a : Exa Z h24 a "com/example/leasehold/leasehold/LeaseRequest" := E_a.ext E24
  have F_2 : Fld Z h24 a "com/example/leasehold/leasehold/LeaseRequest" "intent" "Ljava/lang/String;" .null := F_2.ext E24
  have F_3 : Fld Z h24 a "com/example/leasehold/leasehold/LeaseRequest" "intentVersion" "Ljava/lang/String;" .null := F_3.ext E24
  have F_4 : Fld Z h24 a "com/example/leasehold/leasehold/LeaseRequest" "hostId" "Ljava/lang/String;" .null := F_4.ext E24
  have F_5 : Fld Z h24 a "com/example/leasehold/leasehold/LeaseRequest" "pid" "J" (.long (0 : Int64)) := F_5.ext E24
  have F_6 : Fld Z h24 a "com/example/leasehold/leasehold/LeaseRequest" "ttlSeconds" "J" (.long (0 : Int64)) := F_6.ext E24
  have E_x : Exa Z h24 x "java/lang/String" := E_x.ext E24
  have E_y1 : Exa Z h24 y1 "java/lang/String" := E_y1.ext E24
  have E_y2 : Exa Z h24 y2 "java/lang/String" := E_y2.ext E24
  have E_y3 : Exa Z h24 y3 "java/lang/String" := E_y3.ext E24
  have E_y4 : Exa Z h24 y4 "java/lang/String" := E_y4.ext E24
  have F_0 : Fld Z h24 a "com/example/leasehold/leasehold/LeaseRequest" "holder" "Ljava/lang/String;" (.ref x) := F_0.ext E24
  have F_1 : Fld Z h24 a "com/example/leasehold/leasehold/LeaseRequest" "actor" "Ljava/lang/String;" (.ref y1) := F_1.ext E24
  have Zs26 : n0 ≤ h24.size := Nat.le_trans Zs22 E24.1
  have hk26 : k12 ≤ h24.size := Nat.le_trans hk22 E24.1
  have KC26 : Keep h0 h24 [a] := KC22.ext E24
  have pre27 : ∀ tgt, Steps p.tables e below (T24.setTop (mkF m 76 #[.val (.ref a), .val (.ref x), .val (.ref y1), .val (.ref y2), .val (.ref y3), .val (.ref y4), .val (.long q1), .second, .val (.long q2), .second] [(.ref lit24), (.ref y2), (.ref a)])) tgt → Steps p.tables e below (s₁.setTop (entryFrame m #[(.ref a), (.ref x), (.ref y1), (.ref y2), (.ref y3), (.ref y4), (.long q1), (.long q2)] 10)) tgt := by
    intro tgt kk
    refine pre23 tgt ?_
    refine st24 _ ?_
    show Steps p.tables e below (T24.setTop (mkF m 76 #[.val (.ref a), .val (.ref x), .val (.ref y1), .val (.ref y2), .val (.ref y3), .val (.ref y4), .val (.long q1), .second, .val (.long q2), .second] [(.ref lit24), (.ref y2), (.ref a)])) _
    exact kk
  obtain ⟨_, _, ⟨T28, L28, k28, n28⟩, -, X28, ⟨Lc28, hQ28, l28, y28, z28⟩, st28⟩ := Jvm.LawKit.callS X24 hx (y := (⟨"java/util/Objects", "requireNonNull", "(Ljava/lang/Object;Ljava/lang/String;)Ljava/lang/Object;"⟩ : MethodName)) hown (mvT hZ (hw _ (List.mem_of_getElem? (i := 97) rfl))) (mvT hZ (hw _ (List.mem_of_getElem? (i := 98) rfl))) (mvT hZ (hw _ (List.mem_of_getElem? (i := 99) rfl))) (mvT hZ (hw _ (List.mem_of_getElem? (i := 100) rfl))) (by decide) (backOf (W := 1) (rmNN l Z a0 hw [] y2 lit24 h24 n0 Zs26) hZ (hw _ (List.mem_of_getElem? (i := 100) rfl)) (hw _ (List.mem_of_getElem? (i := 99) rfl)) (by decide) (by decide)) (g := (mkF m 76 #[.val (.ref a), .val (.ref x), .val (.ref y1), .val (.ref y2), .val (.ref y3), .val (.ref y4), .val (.long q1), .second, .val (.long q2), .second] [(.ref lit24), (.ref y2), (.ref a)])) rfl (by rw [hml]; rfl) (argsL := [(.ref y2), (.ref lit24)]) (rest := [(.ref a)]) (lenOf pd__Ljava_lang_Object_Ljava_lang_String__Ljava_lang_Object_ rfl) rfl (by show 2 * 0 + _ ≤ _; exact Nat.le_of_eq rfl) (hb hby d8_76) (fun _ _ => ⟨rfl, e24, (by decide : 4 + 0 ≤ _), (by decide : 188 + 0 ≤ _)⟩)
  dsimp only [Pt.U, Pt.locs, Pt.cells, Pt.slots] at X28 l28 y28 z28 st28 hQ28
  subst l28 y28 z28
  obtain ⟨rfl, N28q, hh28⟩ := hQ28
  have N28 := Fr.app N20 N28q
  have pre29 : ∀ tgt, Steps p.tables e below (T28.setTop (mkF m 79 #[.val (.ref a), .val (.ref x), .val (.ref y1), .val (.ref y2), .val (.ref y3), .val (.ref y4), .val (.long q1), .second, .val (.long q2), .second] [(.ref y2), (.ref a)])) tgt → Steps p.tables e below (s₁.setTop (entryFrame m #[(.ref a), (.ref x), (.ref y1), (.ref y2), (.ref y3), (.ref y4), (.long q1), (.long q2)] 10)) tgt := by
    intro tgt kk
    refine pre27 tgt ?_
    refine st28 _ ?_
    show Steps p.tables e below (T28.setTop (mkF m 79 #[.val (.ref a), .val (.ref x), .val (.ref y1), .val (.ref y2), .val (.ref y3), .val (.ref y4), .val (.long q1), .second, .val (.long q2), .second] [(.ref y2), (.ref a)])) _
    exact kk
  obtain ⟨T30, X30, e30, st30⟩ := castY X28 hx hZ hown (hw _ (List.mem_of_getElem? (i := 101) rfl)) hh28 (Ins.self E_y2) (g := (mkF m 79 #[.val (.ref a), .val (.ref x), .val (.ref y1), .val (.ref y2), .val (.ref y3), .val (.ref y4), .val (.long q1), .second, .val (.long q2), .second] [(.ref y2), (.ref a)])) rfl rfl (hb hby d8_79)
  have pre31 : ∀ tgt, Steps p.tables e below (T30.setTop (mkF m 82 #[.val (.ref a), .val (.ref x), .val (.ref y1), .val (.ref y2), .val (.ref y3), .val (.ref y4), .val (.long q1), .second, .val (.long q2), .second] [(.ref y2), (.ref a)])) tgt → Steps p.tables e below (s₁.setTop (entryFrame m #[(.ref a), (.ref x), (.ref y1), (.ref y2), (.ref y3), (.ref y4), (.long q1), (.long q2)] 10)) tgt := by
    intro tgt kk
    refine pre29 tgt ?_
    refine st30 _ ?_
    show Steps p.tables e below (T30.setTop (mkF m 82 #[.val (.ref a), .val (.ref x), .val (.ref y1), .val (.ref y2), .val (.ref y3), .val (.ref y4), .val (.long q1), .second, .val (.long q2), .second] [(.ref y2), (.ref a)])) _
    exact kk
  obtain ⟨T32, h32, X32, e32, W32, st32⟩ := putF X30 hx hZ hown (host := "") (Or.inl (hw _ (List.mem_of_getElem? (i := 105) rfl))) Via.refl e30 F_2 E_a (Or.inr ⟨(hw _ (List.mem_of_getElem? (i := 106) rfl)), rfl, hnm⟩) (hw _ (List.mem_of_getElem? (i := 35) rfl)) (ty := (.object "java/lang/String")) (by decide) rfl rfl (g := (mkF m 82 #[.val (.ref a), .val (.ref x), .val (.ref y1), .val (.ref y2), .val (.ref y3), .val (.ref y4), .val (.long q1), .second, .val (.long q2), .second] [(.ref y2), (.ref a)])) rfl rfl (hb hby d8_82)
  have N32 := Fr.snoc X32 N28 g_a
  have Fq32 : Fld Z h32 a "com/example/leasehold/leasehold/LeaseRequest" "intent" "Ljava/lang/String;" (.ref y2) := F_2.same W32
  have CA33 : CHr Z own_EL T24.vm h24 T24.vm h32 := CHr.wr W32 (Safe.exa hZ.alike E_a (by decide) (by decide)) CH25.1
  have CH33 : CHr Z own_EL s.vm h0 T24.vm h32 := CH25.trans CA33
  have E_a : Exa Z h32 a "com/example/leasehold/leasehold/LeaseRequest" := E_a.wr W32
  have F_3 : Fld Z h32 a "com/example/leasehold/leasehold/LeaseRequest" "intentVersion" "Ljava/lang/String;" .null := F_3.other W32 (Or.inr (slot_ne (Or.inr (hw _ (List.mem_of_getElem? (i := 109) rfl))) (Or.inr (hw _ (List.mem_of_getElem? (i := 106) rfl))) (by decide) (t := (.object "java/lang/String")) (t' := (.object "java/lang/String")) (by decide) (by decide)))
  have F_4 : Fld Z h32 a "com/example/leasehold/leasehold/LeaseRequest" "hostId" "Ljava/lang/String;" .null := F_4.other W32 (Or.inr (slot_ne (Or.inr (hw _ (List.mem_of_getElem? (i := 112) rfl))) (Or.inr (hw _ (List.mem_of_getElem? (i := 106) rfl))) (by decide) (t := (.object "java/lang/String")) (t' := (.object "java/lang/String")) (by decide) (by decide)))
  have F_5 : Fld Z h32 a "com/example/leasehold/leasehold/LeaseRequest" "pid" "J" (.long (0 : Int64)) := F_5.other W32 (Or.inr (slot_ne (Or.inr (hw _ (List.mem_of_getElem? (i := 114) rfl))) (Or.inr (hw _ (List.mem_of_getElem? (i := 106) rfl))) (by decide) (t := .long) (t' := (.object "java/lang/String")) (by decide) (by decide)))
  have F_6 : Fld Z h32 a "com/example/leasehold/leasehold/LeaseRequest" "ttlSeconds" "J" (.long (0 : Int64)) := F_6.other W32 (Or.inr (slot_ne (Or.inr (hw _ (List.mem_of_getElem? (i := 116) rfl))) (Or.inr (hw _ (List.mem_of_getElem? (i := 106) rfl))) (by decide) (t := .long) (t' := (.object "java/lang/String")) (by decide) (by decide)))
  have E_x : Exa Z h32 x "java/lang/String" := E_x.wr W32
  have E_y1 : Exa Z h32 y1 "java/lang/String" := E_y1.wr W32
  have E_y2 : Exa Z h32 y2 "java/lang/String" := E_y2.wr W32
  have E_y3 : Exa Z h32 y3 "java/lang/String" := E_y3.wr W32
  have E_y4 : Exa Z h32 y4 "java/lang/String" := E_y4.wr W32
  have F_0 : Fld Z h32 a "com/example/leasehold/leasehold/LeaseRequest" "holder" "Ljava/lang/String;" (.ref x) := F_0.other W32 (Or.inr (slot_ne (Or.inr (hw _ (List.mem_of_getElem? (i := 95) rfl))) (Or.inr (hw _ (List.mem_of_getElem? (i := 106) rfl))) (by decide) (t := (.object "java/lang/String")) (t' := (.object "java/lang/String")) (by decide) (by decide)))
  have F_1 : Fld Z h32 a "com/example/leasehold/leasehold/LeaseRequest" "actor" "Ljava/lang/String;" (.ref y1) := F_1.other W32 (Or.inr (slot_ne (Or.inr (hw _ (List.mem_of_getElem? (i := 103) rfl))) (Or.inr (hw _ (List.mem_of_getElem? (i := 106) rfl))) (by decide) (t := (.object "java/lang/String")) (t' := (.object "java/lang/String")) (by decide) (by decide)))
  have Zs34 : n0 ≤ h32.size := Nat.le_trans Zs26 (Keep.of_wr W32).1
  have hk34 : k24 ≤ h32.size := Nat.le_trans hkl24 (Keep.of_wr W32).1
  have KC34 : Keep h0 h32 [a] := KC26.wr W32 (Or.inl (List.mem_of_getElem? (i := 0) rfl))
  have F_2 := Fq32
  have pre35 : ∀ tgt, Steps p.tables e below (T32.setTop (mkF m 88 #[.val (.ref a), .val (.ref x), .val (.ref y1), .val (.ref y2), .val (.ref y3), .val (.ref y4), .val (.long q1), .second, .val (.long q2), .second] [(.ref y3), (.ref a)])) tgt → Steps p.tables e below (s₁.setTop (entryFrame m #[(.ref a), (.ref x), (.ref y1), (.ref y2), (.ref y3), (.ref y4), (.long q1), (.long q2)] 10)) tgt := by
    intro tgt kk
    refine pre31 tgt ?_
    refine st32 _ ?_
    show Steps p.tables e below (T32.setTop (mkF m 85 #[.val (.ref a), .val (.ref x), .val (.ref y1), .val (.ref y2), .val (.ref y3), .val (.ref y4), .val (.long q1), .second, .val (.long q2), .second] [])) _
    refine XS.aloadN X32.here hx rfl (hb hby d8_85) rfl rfl ?_
    show Steps p.tables e below (T32.setTop (mkF m 86 #[.val (.ref a), .val (.ref x), .val (.ref y1), .val (.ref y2), .val (.ref y3), .val (.ref y4), .val (.long q1), .second, .val (.long q2), .second] [(.ref a)])) _
    refine XS.aload X32.here hx rfl (hb hby d8_86) rfl rfl ?_
    show Steps p.tables e below (T32.setTop (mkF m 88 #[.val (.ref a), .val (.ref x), .val (.ref y1), .val (.ref y2), .val (.ref y3), .val (.ref y4), .val (.long q1), .second, .val (.long q2), .second] [(.ref y3), (.ref a)])) _
    exact kk
  have hwS : ∀ d ∈ Bundle.stringAtoms, d.before a0 Z = true := fun d hd => hw d ((by decide +kernel : ∀ d ∈ Bundle.stringAtoms, d ∈ tables_1) d hd)
  obtain ⟨lit36, T36, h36, k36, X36, e36, E36, hS36, hkl36, hZ, hown, CL36, -, st36⟩ := ldcOH (s := s) (vm0 := T24.vm) X32 hx hZ hown (hw _ (List.mem_of_getElem? (i := 107) rfl)) hwS e32 (k0 := k24) hS24 hk34 hEL CH33.1 (g := (mkF m 88 #[.val (.ref a), .val (.ref x), .val (.ref y1), .val (.ref y2), .val (.ref y3), .val (.ref y4), .val (.long q1), .second, .val (.long q2), .second] [(.ref y3), (.ref a)])) rfl (hb hby d8_88) (n := 124) (by decide +kernel) (by decide) (by decide) (by decide)
  have CH37 : CHr Z own_EL s.vm h0 T36.vm h36 := CH33.trans CL36
  have E_a : Exa Z h36 a "com/example/leasehold/leasehold/LeaseRequest" := E_a.ext E36
  have F_3 : Fld Z h36 a "com/example/leasehold/leasehold/LeaseRequest" "intentVersion" "Ljava/lang/String;" .null := F_3.ext E36
  have F_4 : Fld Z h36 a "com/example/leasehold/leasehold/LeaseRequest" "hostId" "Ljava/lang/String;" .null := F_4.ext E36
  have F_5 : Fld Z h36 a "com/example/leasehold/leasehold/LeaseRequest" "pid" "J" (.long (0 : Int64)) := F_5.ext E36
  have F_6 : Fld Z h36 a "com/example/leasehold/leasehold/LeaseRequest" "ttlSeconds" "J" (.long (0 : Int64)) := F_6.ext E36
  have E_x : Exa Z h36 x "java/lang/String" := E_x.ext E36
  have E_y1 : Exa Z h36 y1 "java/lang/String" := E_y1.ext E36
  have E_y2 : Exa Z h36 y2 "java/lang/String" := E_y2.ext E36
  have E_y3 : Exa Z h36 y3 "java/lang/String" := E_y3.ext E36
  have E_y4 : Exa Z h36 y4 "java/lang/String" := E_y4.ext E36
  have F_0 : Fld Z h36 a "com/example/leasehold/leasehold/LeaseRequest" "holder" "Ljava/lang/String;" (.ref x) := F_0.ext E36
  have F_1 : Fld Z h36 a "com/example/leasehold/leasehold/LeaseRequest" "actor" "Ljava/lang/String;" (.ref y1) := F_1.ext E36
  have F_2 : Fld Z h36 a "com/example/leasehold/leasehold/LeaseRequest" "intent" "Ljava/lang/String;" (.ref y2) := F_2.ext E36
  have Zs38 : n0 ≤ h36.size := Nat.le_trans Zs34 E36.1
  have hk38 : k24 ≤ h36.size := Nat.le_trans hk34 E36.1
  have KC38 : Keep h0 h36 [a] := KC34.ext E36
  have pre39 : ∀ tgt, Steps p.tables e below (T36.setTop (mkF m 90 #[.val (.ref a), .val (.ref x), .val (.ref y1), .val (.ref y2), .val (.ref y3), .val (.ref y4), .val (.long q1), .second, .val (.long q2), .second] [(.ref lit36), (.ref y3), (.ref a)])) tgt → Steps p.tables e below (s₁.setTop (entryFrame m #[(.ref a), (.ref x), (.ref y1), (.ref y2), (.ref y3), (.ref y4), (.long q1), (.long q2)] 10)) tgt := by
    intro tgt kk
    refine pre35 tgt ?_
    refine st36 _ ?_
    show Steps p.tables e below (T36.setTop (mkF m 90 #[.val (.ref a), .val (.ref x), .val (.ref y1), .val (.ref y2), .val (.ref y3), .val (.ref y4), .val (.long q1), .second, .val (.long q2), .second] [(.ref lit36), (.ref y3), (.ref a)])) _
    exact kk
  obtain ⟨_, _, ⟨T40, L40, k40, n40⟩, -, X40, ⟨Lc40, hQ40, l40, y40, z40⟩, st40⟩ := Jvm.LawKit.callS X36 hx (y := (⟨"java/util/Objects", "requireNonNull", "(Ljava/lang/Object;Ljava/lang/String;)Ljava/lang/Object;"⟩ : MethodName)) hown (mvT hZ (hw _ (List.mem_of_getElem? (i := 97) rfl))) (mvT hZ (hw _ (List.mem_of_getElem? (i := 98) rfl))) (mvT hZ (hw _ (List.mem_of_getElem? (i := 99) rfl))) (mvT hZ (hw _ (List.mem_of_getElem? (i := 100) rfl))) (by decide) (backOf (W := 1) (rmNN l Z a0 hw [] y3 lit36 h36 n0 Zs38) hZ (hw _ (List.mem_of_getElem? (i := 100) rfl)) (hw _ (List.mem_of_getElem? (i := 99) rfl)) (by decide) (by decide)) (g := (mkF m 90 #[.val (.ref a), .val (.ref x), .val (.ref y1), .val (.ref y2), .val (.ref y3), .val (.ref y4), .val (.long q1), .second, .val (.long q2), .second] [(.ref lit36), (.ref y3), (.ref a)])) rfl (by rw [hml]; rfl) (argsL := [(.ref y3), (.ref lit36)]) (rest := [(.ref a)]) (lenOf pd__Ljava_lang_Object_Ljava_lang_String__Ljava_lang_Object_ rfl) rfl (by show 2 * 0 + _ ≤ _; exact Nat.le_of_eq rfl) (hb hby d8_90) (fun _ _ => ⟨rfl, e36, (by decide : 6 + 0 ≤ _), (by decide : 316 + 0 ≤ _)⟩)
  dsimp only [Pt.U, Pt.locs, Pt.cells, Pt.slots] at X40 l40 y40 z40 st40 hQ40
  subst l40 y40 z40
  obtain ⟨rfl, N40q, hh40⟩ := hQ40
  have N40 := Fr.app N32 N40q
  have pre41 : ∀ tgt, Steps p.tables e below (T40.setTop (mkF m 93 #[.val (.ref a), .val (.ref x), .val (.ref y1), .val (.ref y2), .val (.ref y3), .val (.ref y4), .val (.long q1), .second, .val (.long q2), .second] [(.ref y3), (.ref a)])) tgt → Steps p.tables e below (s₁.setTop (entryFrame m #[(.ref a), (.ref x), (.ref y1), (.ref y2), (.ref y3), (.ref y4), (.long q1), (.long q2)] 10)) tgt := by
    intro tgt kk
    refine pre39 tgt ?_
    refine st40 _ ?_
    show Steps p.tables e below (T40.setTop (mkF m 93 #[.val (.ref a), .val (.ref x), .val (.ref y1), .val (.ref y2), .val (.ref y3), .val (.ref y4), .val (.long q1), .second, .val (.long q2), .second] [(.ref y3), (.ref a)])) _
    exact kk
  obtain ⟨T42, X42, e42, st42⟩ := castY X40 hx hZ hown (hw _ (List.mem_of_getElem? (i := 101) rfl)) hh40 (Ins.self E_y3) (g := (mkF m 93 #[.val (.ref a), .val (.ref x), .val (.ref y1), .val (.ref y2), .val (.ref y3), .val (.ref y4), .val (.long q1), .second, .val (.long q2), .second] [(.ref y3), (.ref a)])) rfl rfl (hb hby d8_93)
  have pre43 : ∀ tgt, Steps p.tables e below (T42.setTop (mkF m 96 #[.val (.ref a), .val (.ref x), .val (.ref y1), .val (.ref y2), .val (.ref y3), .val (.ref y4), .val (.long q1), .second, .val (.long q2), .second] [(.ref y3), (.ref a)])) tgt → Steps p.tables e below (s₁.setTop (entryFrame m #[(.ref a), (.ref x), (.ref y1), (.ref y2), (.ref y3), (.ref y4), (.long q1), (.long q2)] 10)) tgt := by
    intro tgt kk
    refine pre41 tgt ?_
    refine st42 _ ?_
    show Steps p.tables e below (T42.setTop (mkF m 96 #[.val (.ref a), .val (.ref x), .val (.ref y1), .val (.ref y2), .val (.ref y3), .val (.ref y4), .val (.long q1), .second, .val (.long q2), .second] [(.ref y3), (.ref a)])) _
    exact kk
  obtain ⟨T44, h44, X44, e44, W44, st44⟩ := putF X42 hx hZ hown (host := "") (Or.inl (hw _ (List.mem_of_getElem? (i := 108) rfl))) Via.refl e42 F_3 E_a (Or.inr ⟨(hw _ (List.mem_of_getElem? (i := 109) rfl)), rfl, hnm⟩) (hw _ (List.mem_of_getElem? (i := 35) rfl)) (ty := (.object "java/lang/String")) (by decide) rfl rfl (g := (mkF m 96 #[.val (.ref a), .val (.ref x), .val (.ref y1), .val (.ref y2), .val (.ref y3), .val (.ref y4), .val (.long q1), .second, .val (.long q2), .second] [(.ref y3), (.ref a)])) rfl rfl (hb hby d8_96)
  have N44 := Fr.snoc X44 N40 g_a
  have Fq44 : Fld Z h44 a "com/example/leasehold/leasehold/LeaseRequest" "intentVersion" "Ljava/lang/String;" (.ref y3) := F_3.same W44
  have CA45 : CHr Z own_EL T36.vm h36 T36.vm h44 := CHr.wr W44 (Safe.exa hZ.alike E_a (by decide) (by decide)) CH37.1
  have CH45 : CHr Z own_EL s.vm h0 T36.vm h44 := CH37.trans CA45
  have E_a : Exa Z h44 a "com/example/leasehold/leasehold/LeaseRequest" := E_a.wr W44
  have F_4 : Fld Z h44 a "com/example/leasehold/leasehold/LeaseRequest" "hostId" "Ljava/lang/String;" .null := F_4.other W44 (Or.inr (slot_ne (Or.inr (hw _ (List.mem_of_getElem? (i := 112) rfl))) (Or.inr (hw _ (List.mem_of_getElem? (i := 109) rfl))) (by decide) (t := (.object "java/lang/String")) (t' := (.object "java/lang/String")) (by decide) (by decide)))
  have F_5 : Fld Z h44 a "com/example/leasehold/leasehold/LeaseRequest" "pid" "J" (.long (0 : Int64)) := F_5.other W44 (Or.inr (slot_ne (Or.inr (hw _ (List.mem_of_getElem? (i := 114) rfl))) (Or.inr (hw _ (List.mem_of_getElem? (i := 109) rfl))) (by decide) (t := .long) (t' := (.object "java/lang/String")) (by decide) (by decide)))
  have F_6 : Fld Z h44 a "com/example/leasehold/leasehold/LeaseRequest" "ttlSeconds" "J" (.long (0 : Int64)) := F_6.other W44 (Or.inr (slot_ne (Or.inr (hw _ (List.mem_of_getElem? (i := 116) rfl))) (Or.inr (hw _ (List.mem_of_getElem? (i := 109) rfl))) (by decide) (t := .long) (t' := (.object "java/lang/String")) (by decide) (by decide)))
  have E_x : Exa Z h44 x "java/lang/String" := E_x.wr W44
  have E_y1 : Exa Z h44 y1 "java/lang/String" := E_y1.wr W44
  have E_y2 : Exa Z h44 y2 "java/lang/String" := E_y2.wr W44
  have E_y3 : Exa Z h44 y3 "java/lang/String" := E_y3.wr W44
  have E_y4 : Exa Z h44 y4 "java/lang/String" := E_y4.wr W44
  have F_0 : Fld Z h44 a "com/example/leasehold/leasehold/LeaseRequest" "holder" "Ljava/lang/String;" (.ref x) := F_0.other W44 (Or.inr (slot_ne (Or.inr (hw _ (List.mem_of_getElem? (i := 95) rfl))) (Or.inr (hw _ (List.mem_of_getElem? (i := 109) rfl))) (by decide) (t := (.object "java/lang/String")) (t' := (.object "java/lang/String")) (by decide) (by decide)))
  have F_1 : Fld Z h44 a "com/example/leasehold/leasehold/LeaseRequest" "actor" "Ljava/lang/String;" (.ref y1) := F_1.other W44 (Or.inr (slot_ne (Or.inr (hw _ (List.mem_of_getElem? (i := 103) rfl))) (Or.inr (hw _ (List.mem_of_getElem? (i := 109) rfl))) (by decide) (t := (.object "java/lang/String")) (t' := (.object "java/lang/String")) (by decide) (by decide)))
  have F_2 : Fld Z h44 a "com/example/leasehold/leasehold/LeaseRequest" "intent" "Ljava/lang/String;" (.ref y2) := F_2.other W44 (Or.inr (slot_ne (Or.inr (hw _ (List.mem_of_getElem? (i := 106) rfl))) (Or.inr (hw _ (List.mem_of_getElem? (i := 109) rfl))) (by decide) (t := (.object "java/lang/String")) (t' := (.object "java/lang/String")) (by decide) (by decide)))
  have Zs46 : n0 ≤ h44.size := Nat.le_trans Zs38 (Keep.of_wr W44).1
  have hk46 : k36 ≤ h44.size := Nat.le_trans hkl36 (Keep.of_wr W44).1
  have KC46 : Keep h0 h44 [a] := KC38.wr W44 (Or.inl (List.mem_of_getElem? (i := 0) rfl))
  have F_3 := Fq44
  have pre47 : ∀ tgt, Steps p.tables e below (T44.setTop (mkF m 102 #[.val (.ref a), .val (.ref x), .val (.ref y1), .val (.ref y2), .val (.ref y3), .val (.ref y4), .val (.long q1), .second, .val (.long q2), .second] [(.ref y4), (.ref a)])) tgt → Steps p.tables e below (s₁.setTop (entryFrame m #[(.ref a), (.ref x), (.ref y1), (.ref y2), (.ref y3), (.ref y4), (.long q1), (.long q2)] 10)) tgt := by
    intro tgt kk
    refine pre43 tgt ?_
    refine st44 _ ?_
    show Steps p.tables e below (T44.setTop (mkF m 99 #[.val (.ref a), .val (.ref x), .val (.ref y1), .val (.ref y2), .val (.ref y3), .val (.ref y4), .val (.long q1), .second, .val (.long q2), .second] [])) _
    refine XS.aloadN X44.here hx rfl (hb hby d8_99) rfl rfl ?_
    show Steps p.tables e below (T44.setTop (mkF m 100 #[.val (.ref a), .val (.ref x), .val (.ref y1), .val (.ref y2), .val (.ref y3), .val (.ref y4), .val (.long q1), .second, .val (.long q2), .second] [(.ref a)])) _
    refine XS.aload X44.here hx rfl (hb hby d8_100) rfl rfl ?_
    show Steps p.tables e below (T44.setTop (mkF m 102 #[.val (.ref a), .val (.ref x), .val (.ref y1), .val (.ref y2), .val (.ref y3), .val (.ref y4), .val (.long q1), .second, .val (.long q2), .second] [(.ref y4), (.ref a)])) _
    exact kk
  have hwS : ∀ d ∈ Bundle.stringAtoms, d.before a0 Z = true := fun d hd => hw d ((by decide +kernel : ∀ d ∈ Bundle.stringAtoms, d ∈ tables_1) d hd)
  obtain ⟨lit48, T48, h48, k48, X48, e48, E48, hS48, hkl48, hZ, hown, CL48, -, st48⟩ := ldcOH (s := s) (vm0 := T36.vm) X44 hx hZ hown (hw _ (List.mem_of_getElem? (i := 110) rfl)) hwS e44 (k0 := k36) hS36 hk46 hEL CH45.1 (g := (mkF m 102 #[.val (.ref a), .val (.ref x), .val (.ref y1), .val (.ref y2), .val (.ref y3), .val (.ref y4), .val (.long q1), .second, .val (.long q2), .second] [(.ref y4), (.ref a)])) rfl (hb hby d8_102) (n := 96) (by decide +kernel) (by decide) (by decide) (by decide)
  have CH49 : CHr Z own_EL s.vm h0 T48.vm h48 := CH45.trans CL48
  have E_a : Exa Z h48 a "com/example/leasehold/leasehold/LeaseRequest" := E_a.ext E48
  have F_4 : Fld Z h48 a "com/example/leasehold/leasehold/LeaseRequest" "hostId" "Ljava/lang/String;" .null := F_4.ext E48
  have F_5 : Fld Z h48 a "com/example/leasehold/leasehold/LeaseRequest" "pid" "J" (.long (0 : Int64)) := F_5.ext E48
  have F_6 : Fld Z h48 a "com/example/leasehold/leasehold/LeaseRequest" "ttlSeconds" "J" (.long (0 : Int64)) := F_6.ext E48
  have E_x : Exa Z h48 x "java/lang/String" := E_x.ext E48
  have E_y1 : Exa Z h48 y1 "java/lang/String" := E_y1.ext E48
  have E_y2 : Exa Z h48 y2 "java/lang/String" := E_y2.ext E48
  have E_y3 : Exa Z h48 y3 "java/lang/String" := E_y3.ext E48
  have E_y4 : Exa Z h48 y4 "java/lang/String" := E_y4.ext E48
  have F_0 : Fld Z h48 a "com/example/leasehold/leasehold/LeaseRequest" "holder" "Ljava/lang/String;" (.ref x) := F_0.ext E48
  have F_1 : Fld Z h48 a "com/example/leasehold/leasehold/LeaseRequest" "actor" "Ljava/lang/String;" (.ref y1) := F_1.ext E48
  have F_2 : Fld Z h48 a "com/example/leasehold/leasehold/LeaseRequest" "intent" "Ljava/lang/String;" (.ref y2) := F_2.ext E48
  have F_3 : Fld Z h48 a "com/example/leasehold/leasehold/LeaseRequest" "intentVersion" "Ljava/lang/String;" (.ref y3) := F_3.ext E48
  have Zs50 : n0 ≤ h48.size := Nat.le_trans Zs46 E48.1
  have hk50 : k36 ≤ h48.size := Nat.le_trans hk46 E48.1
  have KC50 : Keep h0 h48 [a] := KC46.ext E48
  have pre51 : ∀ tgt, Steps p.tables e below (T48.setTop (mkF m 104 #[.val (.ref a), .val (.ref x), .val (.ref y1), .val (.ref y2), .val (.ref y3), .val (.ref y4), .val (.long q1), .second, .val (.long q2), .second] [(.ref lit48), (.ref y4), (.ref a)])) tgt → Steps p.tables e below (s₁.setTop (entryFrame m #[(.ref a), (.ref x), (.ref y1), (.ref y2), (.ref y3), (.ref y4), (.long q1), (.long q2)] 10)) tgt := by
    intro tgt kk
    refine pre47 tgt ?_
    refine st48 _ ?_
    show Steps p.tables e below (T48.setTop (mkF m 104 #[.val (.ref a), .val (.ref x), .val (.ref y1), .val (.ref y2), .val (.ref y3), .val (.ref y4), .val (.long q1), .second, .val (.long q2), .second] [(.ref lit48), (.ref y4), (.ref a)])) _
    exact kk
  obtain ⟨_, _, ⟨T52, L52, k52, n52⟩, -, X52, ⟨Lc52, hQ52, l52, y52, z52⟩, st52⟩ := Jvm.LawKit.callS X48 hx (y := (⟨"java/util/Objects", "requireNonNull", "(Ljava/lang/Object;Ljava/lang/String;)Ljava/lang/Object;"⟩ : MethodName)) hown (mvT hZ (hw _ (List.mem_of_getElem? (i := 97) rfl))) (mvT hZ (hw _ (List.mem_of_getElem? (i := 98) rfl))) (mvT hZ (hw _ (List.mem_of_getElem? (i := 99) rfl))) (mvT hZ (hw _ (List.mem_of_getElem? (i := 100) rfl))) (by decide) (backOf (W := 1) (rmNN l Z a0 hw [] y4 lit48 h48 n0 Zs50) hZ (hw _ (List.mem_of_getElem? (i := 100) rfl)) (hw _ (List.mem_of_getElem? (i := 99) rfl)) (by decide) (by decide)) (g := (mkF m 104 #[.val (.ref a), .val (.ref x), .val (.ref y1), .val (.ref y2), .val (.ref y3), .val (.ref y4), .val (.long q1), .second, .val (.long q2), .second] [(.ref lit48), (.ref y4), (.ref a)])) rfl (by rw [hml]; rfl) (argsL := [(.ref y4), (.ref lit48)]) (rest := [(.ref a)]) (lenOf pd__Ljava_lang_Object_Ljava_lang_String__Ljava_lang_Object_ rfl) rfl (by show 2 * 0 + _ ≤ _; exact Nat.le_of_eq rfl) (hb hby d8_104) (fun _ _ => ⟨rfl, e48, (by decide : 8 + 0 ≤ _), (by decide : 416 + 0 ≤ _)⟩)
  dsimp only [Pt.U, Pt.locs, Pt.cells, Pt.slots] at X52 l52 y52 z52 st52 hQ52
  subst l52 y52 z52
  obtain ⟨rfl, N52q, hh52⟩ := hQ52
  have N52 := Fr.app N44 N52q
  have pre53 : ∀ tgt, Steps p.tables e below (T52.setTop (mkF m 107 #[.val (.ref a), .val (.ref x), .val (.ref y1), .val (.ref y2), .val (.ref y3), .val (.ref y4), .val (.long q1), .second, .val (.long q2), .second] [(.ref y4), (.ref a)])) tgt → Steps p.tables e below (s₁.setTop (entryFrame m #[(.ref a), (.ref x), (.ref y1), (.ref y2), (.ref y3), (.ref y4), (.long q1), (.long q2)] 10)) tgt := by
    intro tgt kk
    refine pre51 tgt ?_
    refine st52 _ ?_
    show Steps p.tables e below (T52.setTop (mkF m 107 #[.val (.ref a), .val (.ref x), .val (.ref y1), .val (.ref y2), .val (.ref y3), .val (.ref y4), .val (.long q1), .second, .val (.long q2), .second] [(.ref y4), (.ref a)])) _
    exact kk
  obtain ⟨T54, X54, e54, st54⟩ := castY X52 hx hZ hown (hw _ (List.mem_of_getElem? (i := 101) rfl)) hh52 (Ins.self E_y4) (g := (mkF m 107 #[.val (.ref a), .val (.ref x), .val (.ref y1), .val (.ref y2), .val (.ref y3), .val (.ref y4), .val (.long q1), .second, .val (.long q2), .second] [(.ref y4), (.ref a)])) rfl rfl (hb hby d8_107)
  have pre55 : ∀ tgt, Steps p.tables e below (T54.setTop (mkF m 110 #[.val (.ref a), .val (.ref x), .val (.ref y1), .val (.ref y2), .val (.ref y3), .val (.ref y4), .val (.long q1), .second, .val (.long q2), .second] [(.ref y4), (.ref a)])) tgt → Steps p.tables e below (s₁.setTop (entryFrame m #[(.ref a), (.ref x), (.ref y1), (.ref y2), (.ref y3), (.ref y4), (.long q1), (.long q2)] 10)) tgt := by
    intro tgt kk
    refine pre53 tgt ?_
    refine st54 _ ?_
    show Steps p.tables e below (T54.setTop (mkF m 110 #[.val (.ref a), .val (.ref x), .val (.ref y1), .val (.ref y2), .val (.ref y3), .val (.ref y4), .val (.long q1), .second, .val (.long q2), .second] [(.ref y4), (.ref a)])) _
    exact kk
  obtain ⟨T56, h56, X56, e56, W56, st56⟩ := putF X54 hx hZ hown (host := "") (Or.inl (hw _ (List.mem_of_getElem? (i := 111) rfl))) Via.refl e54 F_4 E_a (Or.inr ⟨(hw _ (List.mem_of_getElem? (i := 112) rfl)), rfl, hnm⟩) (hw _ (List.mem_of_getElem? (i := 35) rfl)) (ty := (.object "java/lang/String")) (by decide) rfl rfl (g := (mkF m 110 #[.val (.ref a), .val (.ref x), .val (.ref y1), .val (.ref y2), .val (.ref y3), .val (.ref y4), .val (.long q1), .second, .val (.long q2), .second] [(.ref y4), (.ref a)])) rfl rfl (hb hby d8_110)
  have N56 := Fr.snoc X56 N52 g_a
  have Fq56 : Fld Z h56 a "com/example/leasehold/leasehold/LeaseRequest" "hostId" "Ljava/lang/String;" (.ref y4) := F_4.same W56
  have CA57 : CHr Z own_EL T48.vm h48 T48.vm h56 := CHr.wr W56 (Safe.exa hZ.alike E_a (by decide) (by decide)) CH49.1
  have CH57 : CHr Z own_EL s.vm h0 T48.vm h56 := CH49.trans CA57
  have E_a : Exa Z h56 a "com/example/leasehold/leasehold/LeaseRequest" := E_a.wr W56
  have F_5 : Fld Z h56 a "com/example/leasehold/leasehold/LeaseRequest" "pid" "J" (.long (0 : Int64)) := F_5.other W56 (Or.inr (slot_ne (Or.inr (hw _ (List.mem_of_getElem? (i := 114) rfl))) (Or.inr (hw _ (List.mem_of_getElem? (i := 112) rfl))) (by decide) (t := .long) (t' := (.object "java/lang/String")) (by decide) (by decide)))
  have F_6 : Fld Z h56 a "com/example/leasehold/leasehold/LeaseRequest" "ttlSeconds" "J" (.long (0 : Int64)) := F_6.other W56 (Or.inr (slot_ne (Or.inr (hw _ (List.mem_of_getElem? (i := 116) rfl))) (Or.inr (hw _ (List.mem_of_getElem? (i := 112) rfl))) (by decide) (t := .long) (t' := (.object "java/lang/String")) (by decide) (by decide)))
  have E_x : Exa Z h56 x "java/lang/String" := E_x.wr W56
  have E_y1 : Exa Z h56 y1 "java/lang/String" := E_y1.wr W56
  have E_y2 : Exa Z h56 y2 "java/lang/String" := E_y2.wr W56
  have E_y3 : Exa Z h56 y3 "java/lang/String" := E_y3.wr W56
  have E_y4 : Exa Z h56 y4 "java/lang/String" := E_y4.wr W56
  have F_0 : Fld Z h56 a "com/example/leasehold/leasehold/LeaseRequest" "holder" "Ljava/lang/String;" (.ref x) := F_0.other W56 (Or.inr (slot_ne (Or.inr (hw _ (List.mem_of_getElem? (i := 95) rfl))) (Or.inr (hw _ (List.mem_of_getElem? (i := 112) rfl))) (by decide) (t := (.object "java/lang/String")) (t' := (.object "java/lang/String")) (by decide) (by decide)))
  have F_1 : Fld Z h56 a "com/example/leasehold/leasehold/LeaseRequest" "actor" "Ljava/lang/String;" (.ref y1) := F_1.other W56 (Or.inr (slot_ne (Or.inr (hw _ (List.mem_of_getElem? (i := 103) rfl))) (Or.inr (hw _ (List.mem_of_getElem? (i := 112) rfl))) (by decide) (t := (.object "java/lang/String")) (t' := (.object "java/lang/String")) (by decide) (by decide)))
  have F_2 : Fld Z h56 a "com/example/leasehold/leasehold/LeaseRequest" "intent" "Ljava/lang/String;" (.ref y2) := F_2.other W56 (Or.inr (slot_ne (Or.inr (hw _ (List.mem_of_getElem? (i := 106) rfl))) (Or.inr (hw _ (List.mem_of_getElem? (i := 112) rfl))) (by decide) (t := (.object "java/lang/String")) (t' := (.object "java/lang/String")) (by decide) (by decide)))
  have F_3 : Fld Z h56 a "com/example/leasehold/leasehold/LeaseRequest" "intentVersion" "Ljava/lang/String;" (.ref y3) := F_3.other W56 (Or.inr (slot_ne (Or.inr (hw _ (List.mem_of_getElem? (i := 109) rfl))) (Or.inr (hw _ (List.mem_of_getElem? (i := 112) rfl))) (by decide) (t := (.object "java/lang/String")) (t' := (.object "java/lang/String")) (by decide) (by decide)))
  have Zs58 : n0 ≤ h56.size := Nat.le_trans Zs50 (Keep.of_wr W56).1
  have hk58 : k48 ≤ h56.size := Nat.le_trans hkl48 (Keep.of_wr W56).1
  have KC58 : Keep h0 h56 [a] := KC50.wr W56 (Or.inl (List.mem_of_getElem? (i := 0) rfl))
  have F_4 := Fq56
  have pre59 : ∀ tgt, Steps p.tables e below (T56.setTop (mkF m 116 #[.val (.ref a), .val (.ref x), .val (.ref y1), .val (.ref y2), .val (.ref y3), .val (.ref y4), .val (.long q1), .second, .val (.long q2), .second] [(.long q1), (.ref a)])) tgt → Steps p.tables e below (s₁.setTop (entryFrame m #[(.ref a), (.ref x), (.ref y1), (.ref y2), (.ref y3), (.ref y4), (.long q1), (.long q2)] 10)) tgt := by
    intro tgt kk
    refine pre55 tgt ?_
    refine st56 _ ?_
    show Steps p.tables e below (T56.setTop (mkF m 113 #[.val (.ref a), .val (.ref x), .val (.ref y1), .val (.ref y2), .val (.ref y3), .val (.ref y4), .val (.long q1), .second, .val (.long q2), .second] [])) _
    refine XS.aloadN X56.here hx rfl (hb hby d8_113) rfl rfl ?_
    show Steps p.tables e below (T56.setTop (mkF m 114 #[.val (.ref a), .val (.ref x), .val (.ref y1), .val (.ref y2), .val (.ref y3), .val (.ref y4), .val (.long q1), .second, .val (.long q2), .second] [(.ref a)])) _
    refine XS.lload X56.here hx rfl (hb hby d8_114) rfl ?_
    show Steps p.tables e below (T56.setTop (mkF m 116 #[.val (.ref a), .val (.ref x), .val (.ref y1), .val (.ref y2), .val (.ref y3), .val (.ref y4), .val (.long q1), .second, .val (.long q2), .second] [(.long q1), (.ref a)])) _
    exact kk
  obtain ⟨T60, h60, X60, e60, W60, st60⟩ := putF X56 hx hZ hown (host := "") (Or.inl (hw _ (List.mem_of_getElem? (i := 113) rfl))) Via.refl e56 F_5 E_a (Or.inr ⟨(hw _ (List.mem_of_getElem? (i := 114) rfl)), rfl, hnm⟩) (hw _ (List.mem_of_getElem? (i := 35) rfl)) (ty := .long) (by decide) rfl rfl (g := (mkF m 116 #[.val (.ref a), .val (.ref x), .val (.ref y1), .val (.ref y2), .val (.ref y3), .val (.ref y4), .val (.long q1), .second, .val (.long q2), .second] [(.long q1), (.ref a)])) rfl rfl (hb hby d8_116)
  have N60 := Fr.snoc X60 N56 g_a
  have Fq60 : Fld Z h60 a "com/example/leasehold/leasehold/LeaseRequest" "pid" "J" (.long q1) := F_5.same W60
  have CA61 : CHr Z own_EL T48.vm h56 T48.vm h60 := CHr.wr W60 (Safe.exa hZ.alike E_a (by decide) (by decide)) CH57.1
  have CH61 : CHr Z own_EL s.vm h0 T48.vm h60 := CH57.trans CA61
  have E_a : Exa Z h60 a "com/example/leasehold/leasehold/LeaseRequest" := E_a.wr W60
  have F_6 : Fld Z h60 a "com/example/leasehold/leasehold/LeaseRequest" "ttlSeconds" "J" (.long (0 : Int64)) := F_6.other W60 (Or.inr (slot_ne (Or.inr (hw _ (List.mem_of_getElem? (i := 116) rfl))) (Or.inr (hw _ (List.mem_of_getElem? (i := 114) rfl))) (by decide) (t := .long) (t' := .long) (by decide) (by decide)))
  have E_x : Exa Z h60 x "java/lang/String" := E_x.wr W60
  have E_y1 : Exa Z h60 y1 "java/lang/String" := E_y1.wr W60
  have E_y2 : Exa Z h60 y2 "java/lang/String" := E_y2.wr W60
  have E_y3 : Exa Z h60 y3 "java/lang/String" := E_y3.wr W60
  have E_y4 : Exa Z h60 y4 "java/lang/String" := E_y4.wr W60
  have F_0 : Fld Z h60 a "com/example/leasehold/leasehold/LeaseRequest" "holder" "Ljava/lang/String;" (.ref x) := F_0.other W60 (Or.inr (slot_ne (Or.inr (hw _ (List.mem_of_getElem? (i := 95) rfl))) (Or.inr (hw _ (List.mem_of_getElem? (i := 114) rfl))) (by decide) (t := (.object "java/lang/String")) (t' := .long) (by decide) (by decide)))
  have F_1 : Fld Z h60 a "com/example/leasehold/leasehold/LeaseRequest" "actor" "Ljava/lang/String;" (.ref y1) := F_1.other W60 (Or.inr (slot_ne (Or.inr (hw _ (List.mem_of_getElem? (i := 103) rfl))) (Or.inr (hw _ (List.mem_of_getElem? (i := 114) rfl))) (by decide) (t := (.object "java/lang/String")) (t' := .long) (by decide) (by decide)))
  have F_2 : Fld Z h60 a "com/example/leasehold/leasehold/LeaseRequest" "intent" "Ljava/lang/String;" (.ref y2) := F_2.other W60 (Or.inr (slot_ne (Or.inr (hw _ (List.mem_of_getElem? (i := 106) rfl))) (Or.inr (hw _ (List.mem_of_getElem? (i := 114) rfl))) (by decide) (t := (.object "java/lang/String")) (t' := .long) (by decide) (by decide)))
  have F_3 : Fld Z h60 a "com/example/leasehold/leasehold/LeaseRequest" "intentVersion" "Ljava/lang/String;" (.ref y3) := F_3.other W60 (Or.inr (slot_ne (Or.inr (hw _ (List.mem_of_getElem? (i := 109) rfl))) (Or.inr (hw _ (List.mem_of_getElem? (i := 114) rfl))) (by decide) (t := (.object "java/lang/String")) (t' := .long) (by decide) (by decide)))
  have F_4 : Fld Z h60 a "com/example/leasehold/leasehold/LeaseRequest" "hostId" "Ljava/lang/String;" (.ref y4) := F_4.other W60 (Or.inr (slot_ne (Or.inr (hw _ (List.mem_of_getElem? (i := 112) rfl))) (Or.inr (hw _ (List.mem_of_getElem? (i := 114) rfl))) (by decide) (t := (.object "java/lang/String")) (t' := .long) (by decide) (by decide)))
  have Zs62 : n0 ≤ h60.size := Nat.le_trans Zs58 (Keep.of_wr W60).1
  have hk62 : k48 ≤ h60.size := Nat.le_trans hk58 (Keep.of_wr W60).1
  have KC62 : Keep h0 h60 [a] := KC58.wr W60 (Or.inl (List.mem_of_getElem? (i := 0) rfl))
  have F_5 := Fq60
  have pre63 : ∀ tgt, Steps p.tables e below (T60.setTop (mkF m 122 #[.val (.ref a), .val (.ref x), .val (.ref y1), .val (.ref y2), .val (.ref y3), .val (.ref y4), .val (.long q1), .second, .val (.long q2), .second] [(.long q2), (.ref a)])) tgt → Steps p.tables e below (s₁.setTop (entryFrame m #[(.ref a), (.ref x), (.ref y1), (.ref y2), (.ref y3), (.ref y4), (.long q1), (.long q2)] 10)) tgt := by
    intro tgt kk
    refine pre59 tgt ?_
    refine st60 _ ?_
    show Steps p.tables e below (T60.setTop (mkF m 119 #[.val (.ref a), .val (.ref x), .val (.ref y1), .val (.ref y2), .val (.ref y3), .val (.ref y4), .val (.long q1), .second, .val (.long q2), .second] [])) _
    refine XS.aloadN X60.here hx rfl (hb hby d8_119) rfl rfl ?_
    show Steps p.tables e below (T60.setTop (mkF m 120 #[.val (.ref a), .val (.ref x), .val (.ref y1), .val (.ref y2), .val (.ref y3), .val (.ref y4), .val (.long q1), .second, .val (.long q2), .second] [(.ref a)])) _
    refine XS.lload X60.here hx rfl (hb hby d8_120) rfl ?_
    show Steps p.tables e below (T60.setTop (mkF m 122 #[.val (.ref a), .val (.ref x), .val (.ref y1), .val (.ref y2), .val (.ref y3), .val (.ref y4), .val (.long q1), .second, .val (.long q2), .second] [(.long q2), (.ref a)])) _
    exact kk
  obtain ⟨T64, h64, X64, e64, W64, st64⟩ := putF X60 hx hZ hown (host := "") (Or.inl (hw _ (List.mem_of_getElem? (i := 115) rfl))) Via.refl e60 F_6 E_a (Or.inr ⟨(hw _ (List.mem_of_getElem? (i := 116) rfl)), rfl, hnm⟩) (hw _ (List.mem_of_getElem? (i := 35) rfl)) (ty := .long) (by decide) rfl rfl (g := (mkF m 122 #[.val (.ref a), .val (.ref x), .val (.ref y1), .val (.ref y2), .val (.ref y3), .val (.ref y4), .val (.long q1), .second, .val (.long q2), .second] [(.long q2), (.ref a)])) rfl rfl (hb hby d8_122)
  have N64 := Fr.snoc X64 N60 g_a
  have Fq64 : Fld Z h64 a "com/example/leasehold/leasehold/LeaseRequest" "ttlSeconds" "J" (.long q2) := F_6.same W64
  have CA65 : CHr Z own_EL T48.vm h60 T48.vm h64 := CHr.wr W64 (Safe.exa hZ.alike E_a (by decide) (by decide)) CH61.1
  have CH65 : CHr Z own_EL s.vm h0 T48.vm h64 := CH61.trans CA65
  have E_a : Exa Z h64 a "com/example/leasehold/leasehold/LeaseRequest" := E_a.wr W64
  have E_x : Exa Z h64 x "java/lang/String" := E_x.wr W64
  have E_y1 : Exa Z h64 y1 "java/lang/String" := E_y1.wr W64
  have E_y2 : Exa Z h64 y2 "java/lang/String" := E_y2.wr W64
  have E_y3 : Exa Z h64 y3 "java/lang/String" := E_y3.wr W64
  have E_y4 : Exa Z h64 y4 "java/lang/String" := E_y4.wr W64
  have F_0 : Fld Z h64 a "com/example/leasehold/leasehold/LeaseRequest" "holder" "Ljava/lang/String;" (.ref x) := F_0.other W64 (Or.inr (slot_ne (Or.inr (hw _ (List.mem_of_getElem? (i := 95) rfl))) (Or.inr (hw _ (List.mem_of_getElem? (i := 116) rfl))) (by decide) (t := (.object "java/lang/String")) (t' := .long) (by decide) (by decide)))
  have F_1 : Fld Z h64 a "com/example/leasehold/leasehold/LeaseRequest" "actor" "Ljava/lang/String;" (.ref y1) := F_1.other W64 (Or.inr (slot_ne (Or.inr (hw _ (List.mem_of_getElem? (i := 103) rfl))) (Or.inr (hw _ (List.mem_of_getElem? (i := 116) rfl))) (by decide) (t := (.object "java/lang/String")) (t' := .long) (by decide) (by decide)))
  have F_2 : Fld Z h64 a "com/example/leasehold/leasehold/LeaseRequest" "intent" "Ljava/lang/String;" (.ref y2) := F_2.other W64 (Or.inr (slot_ne (Or.inr (hw _ (List.mem_of_getElem? (i := 106) rfl))) (Or.inr (hw _ (List.mem_of_getElem? (i := 116) rfl))) (by decide) (t := (.object "java/lang/String")) (t' := .long) (by decide) (by decide)))
  have F_3 : Fld Z h64 a "com/example/leasehold/leasehold/LeaseRequest" "intentVersion" "Ljava/lang/String;" (.ref y3) := F_3.other W64 (Or.inr (slot_ne (Or.inr (hw _ (List.mem_of_getElem? (i := 109) rfl))) (Or.inr (hw _ (List.mem_of_getElem? (i := 116) rfl))) (by decide) (t := (.object "java/lang/String")) (t' := .long) (by decide) (by decide)))
  have F_4 : Fld Z h64 a "com/example/leasehold/leasehold/LeaseRequest" "hostId" "Ljava/lang/String;" (.ref y4) := F_4.other W64 (Or.inr (slot_ne (Or.inr (hw _ (List.mem_of_getElem? (i := 112) rfl))) (Or.inr (hw _ (List.mem_of_getElem? (i := 116) rfl))) (by decide) (t := (.object "java/lang/String")) (t' := .long) (by decide) (by decide)))
  have F_5 : Fld Z h64 a "com/example/leasehold/leasehold/LeaseRequest" "pid" "J" (.long q1) := F_5.other W64 (Or.inr (slot_ne (Or.inr (hw _ (List.mem_of_getElem? (i := 114) rfl))) (Or.inr (hw _ (List.mem_of_getElem? (i := 116) rfl))) (by decide) (t := .long) (t' := .long) (by decide) (by decide)))
  have Zs66 : n0 ≤ h64.size := Nat.le_trans Zs62 (Keep.of_wr W64).1
  have hk66 : k48 ≤ h64.size := Nat.le_trans hk62 (Keep.of_wr W64).1
  have KC66 : Keep h0 h64 [a] := KC62.wr W64 (Or.inl (List.mem_of_getElem? (i := 0) rfl))
  have F_6 := Fq64
  obtain ⟨fs, hr, hrun, hended, hR⟩ := Stand.leaveW (s := s) (vm₁ := T48.vm) X64 (n := k48) hS48 (by rw [e64]; exact hk66) (v := none) (fun _ => rfl)
  refine ⟨_, _, pre63 _ ?_, hrun, hended, _, _, rfl, ?_, ?_, hR.1, hR.2.1, hR.2.2.1, hR.2.2.2.mono (by decide) (by decide)⟩
  · skip
    refine st64 _ ?_
    show Steps p.tables e below (T64.setTop (mkF m 125 #[.val (.ref a), .val (.ref x), .val (.ref y1), .val (.ref y2), .val (.ref y3), .val (.ref y4), .val (.long q1), .second, .val (.long q2), .second] [])) _
    exact X64.returnOut hx Bd.returns (hb hby d8_125) hr
  · show QC Z a x t k ch z0 aI aA clA y1 y2 y3 y4 q1 q2 h0 n0 _ T64.heap _
    rw [e64]
    exact ⟨rfl, N64, KC66, F_0, F_1, F_2, F_3, F_4, F_5, F_6⟩
  · show CHr Z own_EL s.vm s.heap T64.vm T64.heap
    rw [hh, e64]
    exact CH65.trans (CHv.at (vm0 := T48.vm) (s := s) X64 hZ hEL CH65.1)
theorem d21_0 : decode prog_13_method_8_code 0 = .ok (.aload_n 0, 1) := by decide +kernel
theorem d21_1 : decode prog_13_method_8_code 1 = .ok (.getfield 50, 3) := by decide +kernel
theorem d21_4 : decode prog_13_method_8_code 4 = .ok (.aload_n 1, 1) := by decide +kernel
theorem d21_5 : decode prog_13_method_8_code 5 = .ok (.getfield 50, 3) := by decide +kernel
theorem d21_8 : decode prog_13_method_8_code 8 = .ok (.invokevirtual 118, 3) := by decide +kernel
theorem d21_11 : decode prog_13_method_8_code 11 = .ok (.ifCond .eq 73, 3) := by decide +kernel
theorem d21_14 : decode prog_13_method_8_code 14 = .ok (.aload_n 0, 1) := by decide +kernel
theorem d21_15 : decode prog_13_method_8_code 15 = .ok (.getfield 55, 3) := by decide +kernel
theorem d21_18 : decode prog_13_method_8_code 18 = .ok (.aload_n 1, 1) := by decide +kernel
theorem d21_19 : decode prog_13_method_8_code 19 = .ok (.getfield 55, 3) := by decide +kernel
theorem d21_22 : decode prog_13_method_8_code 22 = .ok (.invokevirtual 118, 3) := by decide +kernel
theorem d21_25 : decode prog_13_method_8_code 25 = .ok (.ifCond .eq 59, 3) := by decide +kernel
theorem d21_28 : decode prog_13_method_8_code 28 = .ok (.aload_n 0, 1) := by decide +kernel
theorem d21_29 : decode prog_13_method_8_code 29 = .ok (.getfield 60, 3) := by decide +kernel
theorem d21_32 : decode prog_13_method_8_code 32 = .ok (.aload_n 1, 1) := by decide +kernel
theorem d21_33 : decode prog_13_method_8_code 33 = .ok (.getfield 60, 3) := by decide +kernel
theorem d21_36 : decode prog_13_method_8_code 36 = .ok (.invokevirtual 118, 3) := by decide +kernel
theorem d21_39 : decode prog_13_method_8_code 39 = .ok (.ifCond .eq 45, 3) := by decide +kernel
theorem d21_42 : decode prog_13_method_8_code 42 = .ok (.aload_n 0, 1) := by decide +kernel
theorem d21_43 : decode prog_13_method_8_code 43 = .ok (.getfield 65, 3) := by decide +kernel
theorem d21_46 : decode prog_13_method_8_code 46 = .ok (.aload_n 1, 1) := by decide +kernel
theorem d21_47 : decode prog_13_method_8_code 47 = .ok (.getfield 65, 3) := by decide +kernel
theorem d21_50 : decode prog_13_method_8_code 50 = .ok (.invokevirtual 118, 3) := by decide +kernel
theorem d21_53 : decode prog_13_method_8_code 53 = .ok (.ifCond .eq 31, 3) := by decide +kernel
theorem d21_56 : decode prog_13_method_8_code 56 = .ok (.aload_n 0, 1) := by decide +kernel
theorem d21_57 : decode prog_13_method_8_code 57 = .ok (.getfield 68, 3) := by decide +kernel
theorem d21_60 : decode prog_13_method_8_code 60 = .ok (.aload_n 1, 1) := by decide +kernel
theorem d21_61 : decode prog_13_method_8_code 61 = .ok (.getfield 68, 3) := by decide +kernel
theorem d21_64 : decode prog_13_method_8_code 64 = .ok (.lcmp, 1) := by decide +kernel
theorem d21_65 : decode prog_13_method_8_code 65 = .ok (.ifCond .ne 19, 3) := by decide +kernel
theorem d21_68 : decode prog_13_method_8_code 68 = .ok (.aload_n 0, 1) := by decide +kernel
theorem d21_69 : decode prog_13_method_8_code 69 = .ok (.getfield 72, 3) := by decide +kernel
theorem d21_72 : decode prog_13_method_8_code 72 = .ok (.aload_n 1, 1) := by decide +kernel
theorem d21_73 : decode prog_13_method_8_code 73 = .ok (.getfield 72, 3) := by decide +kernel
theorem d21_76 : decode prog_13_method_8_code 76 = .ok (.lcmp, 1) := by decide +kernel
theorem d21_77 : decode prog_13_method_8_code 77 = .ok (.ifCond .ne 7, 3) := by decide +kernel
theorem d21_80 : decode prog_13_method_8_code 80 = .ok (.iconst 1, 1) := by decide +kernel
theorem d21_81 : decode prog_13_method_8_code 81 = .ok (.goto 4, 3) := by decide +kernel
theorem d21_84 : decode prog_13_method_8_code 84 = .ok (.iconst 0, 1) := by decide +kernel
theorem d21_85 : decode prog_13_method_8_code 85 = .ok (.ireturn, 1) := by decide +kernel
theorem pn_21 : plainName "com/example/leasehold/leasehold/LeaseRequest" = true := by first | (simp [plainName, overriddenIn]; done) | decide +kernel
theorem pd__Ljava_lang_Object__Z : parseMethodDescriptor "(Ljava/lang/Object;)Z" = some ⟨[(.object "java/lang/Object")], some .boolean⟩ := by decide +kernel
theorem ef_rmH (m : MethodId) (x0 : Addr) (x1 : Addr) : entryFrame m #[(.ref x0), (.ref x1)] 2 = mkF m 0 #[.val (.ref x0), .val (.ref x1)] [] := by first | (simp [entryFrame, mkF, argsToLocals, Value.category]; done) | rfl
def QH (Z : State) (a : Addr) (b : Addr) (x1 : Addr) (t1 : Addr) (k1 : ClassId) (cs1 : List Int32) (y1 : Addr) (u1 : Addr) (j1 : ClassId) (ds1 : List Int32) (x2 : Addr) (t2 : Addr) (k2 : ClassId) (cs2 : List Int32) (y2 : Addr) (u2 : Addr) (j2 : ClassId) (ds2 : List Int32) (x3 : Addr) (t3 : Addr) (k3 : ClassId) (cs3 : List Int32) (y3 : Addr) (u3 : Addr) (j3 : ClassId) (ds3 : List Int32) (x4 : Addr) (t4 : Addr) (k4 : ClassId) (cs4 : List Int32) (y4 : Addr) (u4 : Addr) (j4 : ClassId) (ds4 : List Int32) (q5 : Int64) (q6 : Int64) (r5 : Int64) (r6 : Int64) (z0 : Int32) (h0 : Heap) (n0 : Nat) (v : Option Value) (h : Heap) (L : List Loc) : Prop := v = some (.int (bI ((cs1 = ds1) ∧ ((cs2 = ds2) ∧ ((cs3 = ds3) ∧ ((cs4 = ds4) ∧ ((q5 = r5) ∧ (q6 = r6)))))))) ∧ Fr n0 L ∧ h = h0
set_option maxRecDepth 65536 in
set_option maxHeartbeats 40000000 in
theorem rmH (l : Launch) (Z : State) (a0 : Array Value) (hw : ∀ d ∈ tables_1, d.before a0 Z = true) (ws : List Jvm.Cond) (a : Addr) (b : Addr) (x1 : Addr) (t1 : Addr) (k1 : ClassId) (cs1 : List Int32) (y1 : Addr) (u1 : Addr) (j1 : ClassId) (ds1 : List Int32) (x2 : Addr) (t2 : Addr) (k2 : ClassId) (cs2 : List Int32) (y2 : Addr) (u2 : Addr) (j2 : ClassId) (ds2 : List Int32) (x3 : Addr) (t3 : Addr) (k3 : ClassId) (cs3 : List Int32) (y3 : Addr) (u3 : Addr) (j3 : ClassId) (ds3 : List Int32) (x4 : Addr) (t4 : Addr) (k4 : ClassId) (cs4 : List Int32) (y4 : Addr) (u4 : Addr) (j4 : ClassId) (ds4 : List Int32) (q5 : Int64) (q6 : Int64) (r5 : Int64) (r6 : Int64) (z0 : Int32) (h0 : Heap) (n0 : Nat) (Z0 : n0 ≤ h0.size) (S_CS : Sta Z h0 "java/lang/String" "COMPACT_STRINGS" "Z" (.int z0)) (hz : ¬ z0 = 0) (F_1 : Fld Z h0 a "com/example/leasehold/leasehold/LeaseRequest" "actor" "Ljava/lang/String;" (.ref x1)) (G_1 : Fld Z h0 b "com/example/leasehold/leasehold/LeaseRequest" "actor" "Ljava/lang/String;" (.ref y1)) (E_x1 : Exa Z h0 x1 "java/lang/String") (Fv_x1 : Fld Z h0 x1 "java/lang/String" "value" "[B" (.ref t1)) (Fc_x1 : Fld Z h0 x1 "java/lang/String" "coder" "B" (.int (0 : Int32))) (V_x1 : Arv Z h0 t1 k1 .byte (Int32.ofNat (cs1).length) (((cs1).map (fun c => c.toInt8.toInt32)).map Value.int) (.int (0 : Int32))) (E_y1 : Exa Z h0 y1 "java/lang/String") (Fv_y1 : Fld Z h0 y1 "java/lang/String" "value" "[B" (.ref u1)) (Fc_y1 : Fld Z h0 y1 "java/lang/String" "coder" "B" (.int (0 : Int32))) (V_y1 : Arv Z h0 u1 j1 .byte (Int32.ofNat (ds1).length) (((ds1).map (fun c => c.toInt8.toInt32)).map Value.int) (.int (0 : Int32))) (hcs1 : ∀ c ∈ cs1, ¬ c < 0 ∧ ¬ (255 : Int32) < c) (hcl1 : cs1.length ≤ 4000) (hds1 : ∀ c ∈ ds1, ¬ c < 0 ∧ ¬ (255 : Int32) < c) (hdl1 : ds1.length ≤ 4000) (F_2 : Fld Z h0 a "com/example/leasehold/leasehold/LeaseRequest" "intent" "Ljava/lang/String;" (.ref x2)) (G_2 : Fld Z h0 b "com/example/leasehold/leasehold/LeaseRequest" "intent" "Ljava/lang/String;" (.ref y2)) (E_x2 : Exa Z h0 x2 "java/lang/String") (Fv_x2 : Fld Z h0 x2 "java/lang/String" "value" "[B" (.ref t2)) (Fc_x2 : Fld Z h0 x2 "java/lang/String" "coder" "B" (.int (0 : Int32))) (V_x2 : Arv Z h0 t2 k2 .byte (Int32.ofNat (cs2).length) (((cs2).map (fun c => c.toInt8.toInt32)).map Value.int) (.int (0 : Int32))) (E_y2 : Exa Z h0 y2 "java/lang/String") (Fv_y2 : Fld Z h0 y2 "java/lang/String" "value" "[B" (.ref u2)) (Fc_y2 : Fld Z h0 y2 "java/lang/String" "coder" "B" (.int (0 : Int32))) (V_y2 : Arv Z h0 u2 j2 .byte (Int32.ofNat (ds2).length) (((ds2).map (fun c => c.toInt8.toInt32)).map Value.int) (.int (0 : Int32))) (hcs2 : ∀ c ∈ cs2, ¬ c < 0 ∧ ¬ (255 : Int32) < c) (hcl2 : cs2.length ≤ 4000) (hds2 : ∀ c ∈ ds2, ¬ c < 0 ∧ ¬ (255 : Int32) < c) (hdl2 : ds2.length ≤ 4000) (F_3 : Fld Z h0 a "com/example/leasehold/leasehold/LeaseRequest" "intentVersion" "Ljava/lang/String;" (.ref x3)) (G_3 : Fld Z h0 b "com/example/leasehold/leasehold/LeaseRequest" "intentVersion" "Ljava/lang/String;" (.ref y3)) (E_x3 : Exa Z h0 x3 "java/lang/String") (Fv_x3 : Fld Z h0 x3 "java/lang/String" "value" "[B" (.ref t3)) (Fc_x3 : Fld Z h0 x3 "java/lang/String" "coder" "B" (.int (0 : Int32))) (V_x3 : Arv Z h0 t3 k3 .byte (Int32.ofNat (cs3).length) (((cs3).map (fun c => c.toInt8.toInt32)).map Value.int) (.int (0 : Int32))) (E_y3 : Exa Z h0 y3 "java/lang/String") (Fv_y3 : Fld Z h0 y3 "java/lang/String" "value" "[B" (.ref u3)) (Fc_y3 : Fld Z h0 y3 "java/lang/String" "coder" "B" (.int (0 : Int32))) (V_y3 : Arv Z h0 u3 j3 .byte (Int32.ofNat (ds3).length) (((ds3).map (fun c => c.toInt8.toInt32)).map Value.int) (.int (0 : Int32))) (hcs3 : ∀ c ∈ cs3, ¬ c < 0 ∧ ¬ (255 : Int32) < c) (hcl3 : cs3.length ≤ 4000) (hds3 : ∀ c ∈ ds3, ¬ c < 0 ∧ ¬ (255 : Int32) < c) (hdl3 : ds3.length ≤ 4000) (F_4 : Fld Z h0 a "com/example/leasehold/leasehold/LeaseRequest" "hostId" "Ljava/lang/String;" (.ref x4)) (G_4 : Fld Z h0 b "com/example/leasehold/leasehold/LeaseRequest" "hostId" "Ljava/lang/String;" (.ref y4)) (E_x4 : Exa Z h0 x4 "java/lang/String") (Fv_x4 : Fld Z h0 x4 "java/lang/String" "value" "[B" (.ref t4)) (Fc_x4 : Fld Z h0 x4 "java/lang/String" "coder" "B" (.int (0 : Int32))) (V_x4 : Arv Z h0 t4 k4 .byte (Int32.ofNat (cs4).length) (((cs4).map (fun c => c.toInt8.toInt32)).map Value.int) (.int (0 : Int32))) (E_y4 : Exa Z h0 y4 "java/lang/String") (Fv_y4 : Fld Z h0 y4 "java/lang/String" "value" "[B" (.ref u4)) (Fc_y4 : Fld Z h0 y4 "java/lang/String" "coder" "B" (.int (0 : Int32))) (V_y4 : Arv Z h0 u4 j4 .byte (Int32.ofNat (ds4).length) (((ds4).map (fun c => c.toInt8.toInt32)).map Value.int) (.int (0 : Int32))) (hcs4 : ∀ c ∈ cs4, ¬ c < 0 ∧ ¬ (255 : Int32) < c) (hcl4 : cs4.length ≤ 4000) (hds4 : ∀ c ∈ ds4, ¬ c < 0 ∧ ¬ (255 : Int32) < c) (hdl4 : ds4.length ≤ 4000) (F_5 : Fld Z h0 a "com/example/leasehold/leasehold/LeaseRequest" "pid" "J" (.long q5)) (F_6 : Fld Z h0 a "com/example/leasehold/leasehold/LeaseRequest" "ttlSeconds" "J" (.long q6)) (G_5 : Fld Z h0 b "com/example/leasehold/leasehold/LeaseRequest" "pid" "J" (.long r5)) (G_6 : Fld Z h0 b "com/example/leasehold/leasehold/LeaseRequest" "ttlSeconds" "J" (.long r6)) :
    MetFree l (⟨"com/example/leasehold/leasehold/LeaseRequest", "hasTermsOf", "(Lcom/example/leasehold/leasehold/LeaseRequest;)Z"⟩ : MethodName) (head1 (Jvm.Cond.code (⟨"com/example/leasehold/leasehold/LeaseRequest", "hasTermsOf", "(Lcom/example/leasehold/leasehold/LeaseRequest;)Z"⟩ : MethodName) prog_13_method_8_code 2 (some .boolean) :: ws) ({ frames := 3, cells := 0, slots := 0, locals := 41 } : Room)) (fun ar UU => ar = #[(.ref a), (.ref b)] ∧ Z.Warmed39 UU.vm ∧ UU.heap = h0) (fun _ _ _ _ _ => True) (fun _ UU oo UU' => ∃ vv LL, oo = .returned vv ∧ QH Z a b x1 t1 k1 cs1 y1 u1 j1 ds1 x2 t2 k2 cs2 y2 u2 j2 ds2 x3 t3 k3 cs3 y3 u3 j3 ds3 x4 t4 k4 cs4 y4 u4 j4 ds4 q5 q6 r5 r6 z0 h0 n0 vv UU'.heap LL ∧ FrameEnd UU oo UU' LL ({ frames := 3, cells := 0, slots := 0, locals := 41 } : Room).cells ({ frames := 3, cells := 0, slots := 0, locals := 41 } : Room).slots) := by
  refine MetFree.of_bodySF (plainFor_of_name pn_21) hisR ?_
  intro p e s m args below meth c s₁ Bd hml0 hP hK
  obtain ⟨rfl, hZ, hh⟩ := hP
  have hx := Bd.exec
  have hby := Bd.bytes
  have hml : c.maxLocals = 2 := hml0
  have hown : s.vm.findClass "com/example/leasehold/leasehold/LeaseRequest" = some m.cls := findClass_of_methodNamed Bd.named
  have hnm := (name_of_methodNamed Bd.named Bd.method).1
  have X0 : Stand p l e ({ frames := 3, cells := 0, slots := 0, locals := 41 } : Room) s m #[(.ref a), (.ref b)] below meth c s₁ [] 0 0 := Stand.of_body Bd
  have e0 : s₁.heap = h0 := by rw [← hh, Bd.state]; rfl
  have N0 := Fr.nil n0
  have KC0 : Keep h0 h0 [] := Keep.refl h0 []
  have pre0 : ∀ tgt, Steps p.tables e below (s₁.setTop (mkF m 0 #[.val (.ref a), .val (.ref b)] [])) tgt → Steps p.tables e below (s₁.setTop (entryFrame m #[(.ref a), (.ref b)] 2)) tgt := fun tgt kk => castTop (ef_rmH m (a) (b)) kk
  have pre1 : ∀ tgt, Steps p.tables e below (s₁.setTop (mkF m 1 #[.val (.ref a), .val (.ref b)] [(.ref a)])) tgt → Steps p.tables e below (s₁.setTop (entryFrame m #[(.ref a), (.ref b)] 2)) tgt := by
    intro tgt kk
    refine pre0 tgt ?_
    refine XS.aloadN X0.here hx rfl (hb hby d21_0) rfl rfl ?_
    show Steps p.tables e below (s₁.setTop (mkF m 1 #[.val (.ref a), .val (.ref b)] [(.ref a)])) _
    exact kk
  obtain ⟨T2, X2, e2, st2⟩ := getF X0 hx hZ hown (host := "") (Or.inl (hw _ (List.mem_of_getElem? (i := 102) rfl))) Via.refl e0 F_1 (g := (mkF m 1 #[.val (.ref a), .val (.ref b)] [(.ref a)])) rfl rfl (hb hby d21_1)
  have pre3 : ∀ tgt, Steps p.tables e below (T2.setTop (mkF m 5 #[.val (.ref a), .val (.ref b)] [(.ref b), (.ref x1)])) tgt → Steps p.tables e below (s₁.setTop (entryFrame m #[(.ref a), (.ref b)] 2)) tgt := by
    intro tgt kk
    refine pre1 tgt ?_
    refine st2 _ ?_
    show Steps p.tables e below (T2.setTop (mkF m 4 #[.val (.ref a), .val (.ref b)] [(.ref x1)])) _
    refine XS.aloadN X2.here hx rfl (hb hby d21_4) rfl rfl ?_
    show Steps p.tables e below (T2.setTop (mkF m 5 #[.val (.ref a), .val (.ref b)] [(.ref b), (.ref x1)])) _
    exact kk
  obtain ⟨T4, X4, e4, st4⟩ := getF X2 hx hZ hown (host := "") (Or.inl (hw _ (List.mem_of_getElem? (i := 102) rfl))) Via.refl e2 G_1 (g := (mkF m 5 #[.val (.ref a), .val (.ref b)] [(.ref b), (.ref x1)])) rfl rfl (hb hby d21_5)
  have pre5 : ∀ tgt, Steps p.tables e below (T4.setTop (mkF m 8 #[.val (.ref a), .val (.ref b)] [(.ref y1), (.ref x1)])) tgt → Steps p.tables e below (s₁.setTop (entryFrame m #[(.ref a), (.ref b)] 2)) tgt := by
    intro tgt kk
    refine pre3 tgt ?_
    refine st4 _ ?_
    show Steps p.tables e below (T4.setTop (mkF m 8 #[.val (.ref a), .val (.ref b)] [(.ref y1), (.ref x1)])) _
    exact kk
  have hwq6 : ∀ d ∈ StrChars.Road.wordsEq, d.before a0 Z = true := fun d hd => hw d ((by decide +kernel : ∀ d ∈ StrChars.Road.wordsEq, d ∈ tables_1) d hd)
  obtain ⟨cq7, kq7, q7a, q7b, q7c⟩ := isOf hZ e4 E_x1
  obtain ⟨_, _, ⟨T7, L7, k7, n7⟩, -, X7, ⟨Lc7, hQ7, l7, y7, z7⟩, st7⟩ := X4.virtualBack hx (y := (⟨"java/lang/String", "equals", "(Ljava/lang/Object;)Z"⟩ : MethodName)) (z := (⟨"java/lang/String", "equals", "(Ljava/lang/Object;)Z"⟩ : MethodName)) hown (mvT hZ (hw _ (List.mem_of_getElem? (i := 123) rfl))) (mvT hZ (hw _ (List.mem_of_getElem? (i := 124) rfl))) (notFace_of_selects (args := #[]) (mvT hZ (hw _ (List.mem_of_getElem? (i := 126) rfl)))) (mvT hZ (hw _ (List.mem_of_getElem? (i := 126) rfl))) (mvT hZ (hw _ (List.mem_of_getElem? (i := 125) rfl))) (by decide) (StrChars.Road.eqW (W := 0) hZ hwq6 (kI := 4) (hw _ (List.mem_of_getElem? (i := 18) rfl)) E_x1 Fv_x1 Fc_x1 V_x1 (own_cod rfl rfl hcs1) (own_up hcs1) hcl1 E_y1 Fv_y1 Fc_y1 V_y1 (own_cod rfl rfl hds1) (own_up hds1) hdl1 S_CS hz (by decide) (by decide)) q7a q7c (g := (mkF m 8 #[.val (.ref a), .val (.ref b)] [(.ref y1), (.ref x1)])) rfl (by rw [hml]; rfl) (Steps.refl _) (argsL := [(.ref y1)]) (rest := []) (lenOf pd__Ljava_lang_Object__Z rfl) rfl (by show 2 * 0 + _ ≤ _; exact Nat.le_of_eq rfl) (hb hby d21_8) (fun _ _ => ⟨rfl, e4, (by decide : 0 + 0 ≤ _), (by decide : 0 + 0 ≤ _)⟩)
  dsimp only [Pt.U, Pt.locs, Pt.cells, Pt.slots] at X7 l7 y7 z7 st7 hQ7
  subst l7 y7 z7
  have hQ7 := own_eqB hQ7
  obtain ⟨rfl, rfl, hh7⟩ := hQ7
  have N7q : Fr n0 ([] : List Loc) := Fr.nil n0
  have N7 := Fr.app N0 N7q
  have pre8 : ∀ tgt, Steps p.tables e below (T7.setTop (mkF m 11 #[.val (.ref a), .val (.ref b)] [(.int (bI (cs1 = ds1)))])) tgt → Steps p.tables e below (s₁.setTop (entryFrame m #[(.ref a), (.ref b)] 2)) tgt := by
    intro tgt kk
    refine pre5 tgt ?_
    refine st7.trans ?_
    show Steps p.tables e below (T7.setTop (mkF m 11 #[.val (.ref a), .val (.ref b)] [(.int (bI (cs1 = ds1)))])) _
    exact kk
  obtain ⟨T49, lo49, X49, N49, e49, pre49⟩ : ∃ (T' : State) (lo : List Loc), Stand p l e ({ frames := 3, cells := 0, slots := 0, locals := 41 } : Room) s m #[(.ref a), (.ref b)] below meth c T' lo 0 0 ∧ Fr n0 lo ∧ T'.heap = h0 ∧ ∀ tgt, Steps p.tables e below (T'.setTop (mkF m 85 #[.val (.ref a), .val (.ref b)] [(.int (bI ((cs1 = ds1) ∧ ((cs2 = ds2) ∧ ((cs3 = ds3) ∧ ((cs4 = ds4) ∧ ((q5 = r5) ∧ (q6 = r6))))))))])) tgt → Steps p.tables e below (s₁.setTop (entryFrame m #[(.ref a), (.ref b)] 2)) tgt := by
    by_cases hc11_9 : cs1 = ds1
    · skip
      have pre10 : ∀ tgt, Steps p.tables e below (T7.setTop (mkF m 15 #[.val (.ref a), .val (.ref b)] [(.ref a)])) tgt → Steps p.tables e below (s₁.setTop (entryFrame m #[(.ref a), (.ref b)] 2)) tgt := by
        intro tgt kk
        refine pre8 tgt ?_
        refine XS.ifNo X7.here hx rfl (hb hby d21_11) rfl (bB_eq_f hc11_9) ?_
        show Steps p.tables e below (T7.setTop (mkF m 14 #[.val (.ref a), .val (.ref b)] [])) _
        refine XS.aloadN X7.here hx rfl (hb hby d21_14) rfl rfl ?_
        show Steps p.tables e below (T7.setTop (mkF m 15 #[.val (.ref a), .val (.ref b)] [(.ref a)])) _
        exact kk
      obtain ⟨T11, X11, e11, st11⟩ := getF X7 hx hZ hown (host := "") (Or.inl (hw _ (List.mem_of_getElem? (i := 105) rfl))) Via.refl hh7 F_2 (g := (mkF m 15 #[.val (.ref a), .val (.ref b)] [(.ref a)])) rfl rfl (hb hby d21_15)
      have pre12 : ∀ tgt, Steps p.tables e below (T11.setTop (mkF m 19 #[.val (.ref a), .val (.ref b)] [(.ref b), (.ref x2)])) tgt → Steps p.tables e below (s₁.setTop (entryFrame m #[(.ref a), (.ref b)] 2)) tgt := by
        intro tgt kk
        refine pre10 tgt ?_
        refine st11 _ ?_
        show Steps p.tables e below (T11.setTop (mkF m 18 #[.val (.ref a), .val (.ref b)] [(.ref x2)])) _
        refine XS.aloadN X11.here hx rfl (hb hby d21_18) rfl rfl ?_
        show Steps p.tables e below (T11.setTop (mkF m 19 #[.val (.ref a), .val (.ref b)] [(.ref b), (.ref x2)])) _
        exact kk
      obtain ⟨T13, X13, e13, st13⟩ := getF X11 hx hZ hown (host := "") (Or.inl (hw _ (List.mem_of_getElem? (i := 105) rfl))) Via.refl e11 G_2 (g := (mkF m 19 #[.val (.ref a), .val (.ref b)] [(.ref b), (.ref x2)])) rfl rfl (hb hby d21_19)
      have pre14 : ∀ tgt, Steps p.tables e below (T13.setTop (mkF m 22 #[.val (.ref a), .val (.ref b)] [(.ref y2), (.ref x2)])) tgt → Steps p.tables e below (s₁.setTop (entryFrame m #[(.ref a), (.ref b)] 2)) tgt := by
        intro tgt kk
        refine pre12 tgt ?_
        refine st13 _ ?_
        show Steps p.tables e below (T13.setTop (mkF m 22 #[.val (.ref a), .val (.ref b)] [(.ref y2), (.ref x2)])) _
        exact kk
      have hwq15 : ∀ d ∈ StrChars.Road.wordsEq, d.before a0 Z = true := fun d hd => hw d ((by decide +kernel : ∀ d ∈ StrChars.Road.wordsEq, d ∈ tables_1) d hd)
      obtain ⟨cq16, kq16, q16a, q16b, q16c⟩ := isOf hZ e13 E_x2
      obtain ⟨_, _, ⟨T16, L16, k16, n16⟩, -, X16, ⟨Lc16, hQ16, l16, y16, z16⟩, st16⟩ := X13.virtualBack hx (y := (⟨"java/lang/String", "equals", "(Ljava/lang/Object;)Z"⟩ : MethodName)) (z := (⟨"java/lang/String", "equals", "(Ljava/lang/Object;)Z"⟩ : MethodName)) hown (mvT hZ (hw _ (List.mem_of_getElem? (i := 123) rfl))) (mvT hZ (hw _ (List.mem_of_getElem? (i := 124) rfl))) (notFace_of_selects (args := #[]) (mvT hZ (hw _ (List.mem_of_getElem? (i := 126) rfl)))) (mvT hZ (hw _ (List.mem_of_getElem? (i := 126) rfl))) (mvT hZ (hw _ (List.mem_of_getElem? (i := 125) rfl))) (by decide) (StrChars.Road.eqW (W := 0) hZ hwq15 (kI := 4) (hw _ (List.mem_of_getElem? (i := 18) rfl)) E_x2 Fv_x2 Fc_x2 V_x2 (own_cod rfl rfl hcs2) (own_up hcs2) hcl2 E_y2 Fv_y2 Fc_y2 V_y2 (own_cod rfl rfl hds2) (own_up hds2) hdl2 S_CS hz (by decide) (by decide)) q16a q16c (g := (mkF m 22 #[.val (.ref a), .val (.ref b)] [(.ref y2), (.ref x2)])) rfl (by rw [hml]; rfl) (Steps.refl _) (argsL := [(.ref y2)]) (rest := []) (lenOf pd__Ljava_lang_Object__Z rfl) rfl (by show 2 * 0 + _ ≤ _; exact Nat.le_of_eq rfl) (hb hby d21_22) (fun _ _ => ⟨rfl, e13, (by decide : 0 + 0 ≤ _), (by decide : 0 + 0 ≤ _)⟩)
      dsimp only [Pt.U, Pt.locs, Pt.cells, Pt.slots] at X16 l16 y16 z16 st16 hQ16
      subst l16 y16 z16
      have hQ16 := own_eqB hQ16
      obtain ⟨rfl, rfl, hh16⟩ := hQ16
      have N16q : Fr n0 ([] : List Loc) := Fr.nil n0
      have N16 := Fr.app N7 N16q
      have pre17 : ∀ tgt, Steps p.tables e below (T16.setTop (mkF m 25 #[.val (.ref a), .val (.ref b)] [(.int (bI (cs2 = ds2)))])) tgt → Steps p.tables e below (s₁.setTop (entryFrame m #[(.ref a), (.ref b)] 2)) tgt := by
        intro tgt kk
        refine pre14 tgt ?_
        refine st16.trans ?_
        show Steps p.tables e below (T16.setTop (mkF m 25 #[.val (.ref a), .val (.ref b)] [(.int (bI (cs2 = ds2)))])) _
        exact kk
      by_cases hc25_18 : cs2 = ds2
      · skip
        have pre19 : ∀ tgt, Steps p.tables e below (T16.setTop (mkF m 29 #[.val (.ref a), .val (.ref b)] [(.ref a)])) tgt → Steps p.tables e below (s₁.setTop (entryFrame m #[(.ref a), (.ref b)] 2)) tgt := by
          intro tgt kk
          refine pre17 tgt ?_
          refine XS.ifNo X16.here hx rfl (hb hby d21_25) rfl (bB_eq_f hc25_18) ?_
          show Steps p.tables e below (T16.setTop (mkF m 28 #[.val (.ref a), .val (.ref b)] [])) _
          refine XS.aloadN X16.here hx rfl (hb hby d21_28) rfl rfl ?_
          show Steps p.tables e below (T16.setTop (mkF m 29 #[.val (.ref a), .val (.ref b)] [(.ref a)])) _
          exact kk
        obtain ⟨T20, X20, e20, st20⟩ := getF X16 hx hZ hown (host := "") (Or.inl (hw _ (List.mem_of_getElem? (i := 108) rfl))) Via.refl hh16 F_3 (g := (mkF m 29 #[.val (.ref a), .val (.ref b)] [(.ref a)])) rfl rfl (hb hby d21_29)
        have pre21 : ∀ tgt, Steps p.tables e below (T20.setTop (mkF m 33 #[.val (.ref a), .val (.ref b)] [(.ref b), (.ref x3)])) tgt → Steps p.tables e below (s₁.setTop (entryFrame m #[(.ref a), (.ref b)] 2)) tgt := by
          intro tgt kk
          refine pre19 tgt ?_
          refine st20 _ ?_
          show Steps p.tables e below (T20.setTop (mkF m 32 #[.val (.ref a), .val (.ref b)] [(.ref x3)])) _
          refine XS.aloadN X20.here hx rfl (hb hby d21_32) rfl rfl ?_
          show Steps p.tables e below (T20.setTop (mkF m 33 #[.val (.ref a), .val (.ref b)] [(.ref b), (.ref x3)])) _
          exact kk
        obtain ⟨T22, X22, e22, st22⟩ := getF X20 hx hZ hown (host := "") (Or.inl (hw _ (List.mem_of_getElem? (i := 108) rfl))) Via.refl e20 G_3 (g := (mkF m 33 #[.val (.ref a), .val (.ref b)] [(.ref b), (.ref x3)])) rfl rfl (hb hby d21_33)
        have pre23 : ∀ tgt, Steps p.tables e below (T22.setTop (mkF m 36 #[.val (.ref a), .val (.ref b)] [(.ref y3), (.ref x3)])) tgt → Steps p.tables e below (s₁.setTop (entryFrame m #[(.ref a), (.ref b)] 2)) tgt := by
          intro tgt kk
          refine pre21 tgt ?_
          refine st22 _ ?_
          show Steps p.tables e below (T22.setTop (mkF m 36 #[.val (.ref a), .val (.ref b)] [(.ref y3), (.ref x3)])) _
          exact kk
        have hwq24 : ∀ d ∈ StrChars.Road.wordsEq, d.before a0 Z = true := fun d hd => hw d ((by decide +kernel : ∀ d ∈ StrChars.Road.wordsEq, d ∈ tables_1) d hd)
        obtain ⟨cq25, kq25, q25a, q25b, q25c⟩ := isOf hZ e22 E_x3
        obtain ⟨_, _, ⟨T25, L25, k25, n25⟩, -, X25, ⟨Lc25, hQ25, l25, y25, z25⟩, st25⟩ := X22.virtualBack hx (y := (⟨"java/lang/String", "equals", "(Ljava/lang/Object;)Z"⟩ : MethodName)) (z := (⟨"java/lang/String", "equals", "(Ljava/lang/Object;)Z"⟩ : MethodName)) hown (mvT hZ (hw _ (List.mem_of_getElem? (i := 123) rfl))) (mvT hZ (hw _ (List.mem_of_getElem? (i := 124) rfl))) (notFace_of_selects (args := #[]) (mvT hZ (hw _ (List.mem_of_getElem? (i := 126) rfl)))) (mvT hZ (hw _ (List.mem_of_getElem? (i := 126) rfl))) (mvT hZ (hw _ (List.mem_of_getElem? (i := 125) rfl))) (by decide) (StrChars.Road.eqW (W := 0) hZ hwq24 (kI := 4) (hw _ (List.mem_of_getElem? (i := 18) rfl)) E_x3 Fv_x3 Fc_x3 V_x3 (own_cod rfl rfl hcs3) (own_up hcs3) hcl3 E_y3 Fv_y3 Fc_y3 V_y3 (own_cod rfl rfl hds3) (own_up hds3) hdl3 S_CS hz (by decide) (by decide)) q25a q25c (g := (mkF m 36 #[.val (.ref a), .val (.ref b)] [(.ref y3), (.ref x3)])) rfl (by rw [hml]; rfl) (Steps.refl _) (argsL := [(.ref y3)]) (rest := []) (lenOf pd__Ljava_lang_Object__Z rfl) rfl (by show 2 * 0 + _ ≤ _; exact Nat.le_of_eq rfl) (hb hby d21_36) (fun _ _ => ⟨rfl, e22, (by decide : 0 + 0 ≤ _), (by decide : 0 + 0 ≤ _)⟩)
        dsimp only [Pt.U, Pt.locs, Pt.cells, Pt.slots] at X25 l25 y25 z25 st25 hQ25
        subst l25 y25 z25
        have hQ25 := own_eqB hQ25
        obtain ⟨rfl, rfl, hh25⟩ := hQ25
        have N25q : Fr n0 ([] : List Loc) := Fr.nil n0
        have N25 := Fr.app N16 N25q
        have pre26 : ∀ tgt, Steps p.tables e below (T25.setTop (mkF m 39 #[.val (.ref a), .val (.ref b)] [(.int (bI (cs3 = ds3)))])) tgt → Steps p.tables e below (s₁.setTop (entryFrame m #[(.ref a), (.ref b)] 2)) tgt := by
          intro tgt kk
          refine pre23 tgt ?_
          refine st25.trans ?_
          show Steps p.tables e below (T25.setTop (mkF m 39 #[.val (.ref a), .val (.ref b)] [(.int (bI (cs3 = ds3)))])) _
          exact kk
        by_cases hc39_27 : cs3 = ds3
        · skip
          have pre28 : ∀ tgt, Steps p.tables e below (T25.setTop (mkF m 43 #[.val (.ref a), .val (.ref b)] [(.ref a)])) tgt → Steps p.tables e below (s₁.setTop (entryFrame m #[(.ref a), (.ref b)] 2)) tgt := by
            intro tgt kk
            refine pre26 tgt ?_
            refine XS.ifNo X25.here hx rfl (hb hby d21_39) rfl (bB_eq_f hc39_27) ?_
            show Steps p.tables e below (T25.setTop (mkF m 42 #[.val (.ref a), .val (.ref b)] [])) _
            refine XS.aloadN X25.here hx rfl (hb hby d21_42) rfl rfl ?_
            show Steps p.tables e below (T25.setTop (mkF m 43 #[.val (.ref a), .val (.ref b)] [(.ref a)])) _
            exact kk
          obtain ⟨T29, X29, e29, st29⟩ := getF X25 hx hZ hown (host := "") (Or.inl (hw _ (List.mem_of_getElem? (i := 111) rfl))) Via.refl hh25 F_4 (g := (mkF m 43 #[.val (.ref a), .val (.ref b)] [(.ref a)])) rfl rfl (hb hby d21_43)
          have pre30 : ∀ tgt, Steps p.tables e below (T29.setTop (mkF m 47 #[.val (.ref a), .val (.ref b)] [(.ref b), (.ref x4)])) tgt → Steps p.tables e below (s₁.setTop (entryFrame m #[(.ref a), (.ref b)] 2)) tgt := by
            intro tgt kk
            refine pre28 tgt ?_
            refine st29 _ ?_
            show Steps p.tables e below (T29.setTop (mkF m 46 #[.val (.ref a), .val (.ref b)] [(.ref x4)])) _
            refine XS.aloadN X29.here hx rfl (hb hby d21_46) rfl rfl ?_
            show Steps p.tables e below (T29.setTop (mkF m 47 #[.val (.ref a), .val (.ref b)] [(.ref b), (.ref x4)])) _
            exact kk
          obtain ⟨T31, X31, e31, st31⟩ := getF X29 hx hZ hown (host := "") (Or.inl (hw _ (List.mem_of_getElem? (i := 111) rfl))) Via.refl e29 G_4 (g := (mkF m 47 #[.val (.ref a), .val (.ref b)] [(.ref b), (.ref x4)])) rfl rfl (hb hby d21_47)
          have pre32 : ∀ tgt, Steps p.tables e below (T31.setTop (mkF m 50 #[.val (.ref a), .val (.ref b)] [(.ref y4), (.ref x4)])) tgt → Steps p.tables e below (s₁.setTop (entryFrame m #[(.ref a), (.ref b)] 2)) tgt := by
            intro tgt kk
            refine pre30 tgt ?_
            refine st31 _ ?_
            show Steps p.tables e below (T31.setTop (mkF m 50 #[.val (.ref a), .val (.ref b)] [(.ref y4), (.ref x4)])) _
            exact kk
          have hwq33 : ∀ d ∈ StrChars.Road.wordsEq, d.before a0 Z = true := fun d hd => hw d ((by decide +kernel : ∀ d ∈ StrChars.Road.wordsEq, d ∈ tables_1) d hd)
          obtain ⟨cq34, kq34, q34a, q34b, q34c⟩ := isOf hZ e31 E_x4
          obtain ⟨_, _, ⟨T34, L34, k34, n34⟩, -, X34, ⟨Lc34, hQ34, l34, y34, z34⟩, st34⟩ := X31.virtualBack hx (y := (⟨"java/lang/String", "equals", "(Ljava/lang/Object;)Z"⟩ : MethodName)) (z := (⟨"java/lang/String", "equals", "(Ljava/lang/Object;)Z"⟩ : MethodName)) hown (mvT hZ (hw _ (List.mem_of_getElem? (i := 123) rfl))) (mvT hZ (hw _ (List.mem_of_getElem? (i := 124) rfl))) (notFace_of_selects (args := #[]) (mvT hZ (hw _ (List.mem_of_getElem? (i := 126) rfl)))) (mvT hZ (hw _ (List.mem_of_getElem? (i := 126) rfl))) (mvT hZ (hw _ (List.mem_of_getElem? (i := 125) rfl))) (by decide) (StrChars.Road.eqW (W := 0) hZ hwq33 (kI := 4) (hw _ (List.mem_of_getElem? (i := 18) rfl)) E_x4 Fv_x4 Fc_x4 V_x4 (own_cod rfl rfl hcs4) (own_up hcs4) hcl4 E_y4 Fv_y4 Fc_y4 V_y4 (own_cod rfl rfl hds4) (own_up hds4) hdl4 S_CS hz (by decide) (by decide)) q34a q34c (g := (mkF m 50 #[.val (.ref a), .val (.ref b)] [(.ref y4), (.ref x4)])) rfl (by rw [hml]; rfl) (Steps.refl _) (argsL := [(.ref y4)]) (rest := []) (lenOf pd__Ljava_lang_Object__Z rfl) rfl (by show 2 * 0 + _ ≤ _; exact Nat.le_of_eq rfl) (hb hby d21_50) (fun _ _ => ⟨rfl, e31, (by decide : 0 + 0 ≤ _), (by decide : 0 + 0 ≤ _)⟩)
          dsimp only [Pt.U, Pt.locs, Pt.cells, Pt.slots] at X34 l34 y34 z34 st34 hQ34
          subst l34 y34 z34
          have hQ34 := own_eqB hQ34
          obtain ⟨rfl, rfl, hh34⟩ := hQ34
          have N34q : Fr n0 ([] : List Loc) := Fr.nil n0
          have N34 := Fr.app N25 N34q
          have pre35 : ∀ tgt, Steps p.tables e below (T34.setTop (mkF m 53 #[.val (.ref a), .val (.ref b)] [(.int (bI (cs4 = ds4)))])) tgt → Steps p.tables e below (s₁.setTop (entryFrame m #[(.ref a), (.ref b)] 2)) tgt := by
            intro tgt kk
            refine pre32 tgt ?_
            refine st34.trans ?_
            show Steps p.tables e below (T34.setTop (mkF m 53 #[.val (.ref a), .val (.ref b)] [(.int (bI (cs4 = ds4)))])) _
            exact kk
          by_cases hc53_36 : cs4 = ds4
          · skip
            have pre37 : ∀ tgt, Steps p.tables e below (T34.setTop (mkF m 57 #[.val (.ref a), .val (.ref b)] [(.ref a)])) tgt → Steps p.tables e below (s₁.setTop (entryFrame m #[(.ref a), (.ref b)] 2)) tgt := by
              intro tgt kk
              refine pre35 tgt ?_
              refine XS.ifNo X34.here hx rfl (hb hby d21_53) rfl (bB_eq_f hc53_36) ?_
              show Steps p.tables e below (T34.setTop (mkF m 56 #[.val (.ref a), .val (.ref b)] [])) _
              refine XS.aloadN X34.here hx rfl (hb hby d21_56) rfl rfl ?_
              show Steps p.tables e below (T34.setTop (mkF m 57 #[.val (.ref a), .val (.ref b)] [(.ref a)])) _
              exact kk
            obtain ⟨T38, X38, e38, st38⟩ := getF X34 hx hZ hown (host := "") (Or.inl (hw _ (List.mem_of_getElem? (i := 113) rfl))) Via.refl hh34 F_5 (g := (mkF m 57 #[.val (.ref a), .val (.ref b)] [(.ref a)])) rfl rfl (hb hby d21_57)
            have pre39 : ∀ tgt, Steps p.tables e below (T38.setTop (mkF m 61 #[.val (.ref a), .val (.ref b)] [(.ref b), (.long q5)])) tgt → Steps p.tables e below (s₁.setTop (entryFrame m #[(.ref a), (.ref b)] 2)) tgt := by
              intro tgt kk
              refine pre37 tgt ?_
              refine st38 _ ?_
              show Steps p.tables e below (T38.setTop (mkF m 60 #[.val (.ref a), .val (.ref b)] [(.long q5)])) _
              refine XS.aloadN X38.here hx rfl (hb hby d21_60) rfl rfl ?_
              show Steps p.tables e below (T38.setTop (mkF m 61 #[.val (.ref a), .val (.ref b)] [(.ref b), (.long q5)])) _
              exact kk
            obtain ⟨T40, X40, e40, st40⟩ := getF X38 hx hZ hown (host := "") (Or.inl (hw _ (List.mem_of_getElem? (i := 113) rfl))) Via.refl e38 G_5 (g := (mkF m 61 #[.val (.ref a), .val (.ref b)] [(.ref b), (.long q5)])) rfl rfl (hb hby d21_61)
            have pre41 : ∀ tgt, Steps p.tables e below (T40.setTop (mkF m 65 #[.val (.ref a), .val (.ref b)] [(.int (lcmpW q5 r5))])) tgt → Steps p.tables e below (s₁.setTop (entryFrame m #[(.ref a), (.ref b)] 2)) tgt := by
              intro tgt kk
              refine pre39 tgt ?_
              refine st40 _ ?_
              show Steps p.tables e below (T40.setTop (mkF m 64 #[.val (.ref a), .val (.ref b)] [(.long r5), (.long q5)])) _
              refine XS.lcmp X40.here hx rfl (hb hby d21_64) rfl ?_
              show Steps p.tables e below (T40.setTop (mkF m 65 #[.val (.ref a), .val (.ref b)] [(.int (lcmpW q5 r5))])) _
              exact kk
            by_cases hc65_42 : q5 = r5
            · skip
              have pre43 : ∀ tgt, Steps p.tables e below (T40.setTop (mkF m 69 #[.val (.ref a), .val (.ref b)] [(.ref a)])) tgt → Steps p.tables e below (s₁.setTop (entryFrame m #[(.ref a), (.ref b)] 2)) tgt := by
                intro tgt kk
                refine pre41 tgt ?_
                refine XS.ifNo X40.here hx rfl (hb hby d21_65) rfl (XT.ll_ne_f hc65_42) ?_
                show Steps p.tables e below (T40.setTop (mkF m 68 #[.val (.ref a), .val (.ref b)] [])) _
                refine XS.aloadN X40.here hx rfl (hb hby d21_68) rfl rfl ?_
                show Steps p.tables e below (T40.setTop (mkF m 69 #[.val (.ref a), .val (.ref b)] [(.ref a)])) _
                exact kk
              obtain ⟨T44, X44, e44, st44⟩ := getF X40 hx hZ hown (host := "") (Or.inl (hw _ (List.mem_of_getElem? (i := 115) rfl))) Via.refl e40 F_6 (g := (mkF m 69 #[.val (.ref a), .val (.ref b)] [(.ref a)])) rfl rfl (hb hby d21_69)
              have pre45 : ∀ tgt, Steps p.tables e below (T44.setTop (mkF m 73 #[.val (.ref a), .val (.ref b)] [(.ref b), (.long q6)])) tgt → Steps p.tables e below (s₁.setTop (entryFrame m #[(.ref a), (.ref b)] 2)) tgt := by
                intro tgt kk
                refine pre43 tgt ?_
                refine st44 _ ?_
                show Steps p.tables e below (T44.setTop (mkF m 72 #[.val (.ref a), .val (.ref b)] [(.long q6)])) _
                refine XS.aloadN X44.here hx rfl (hb hby d21_72) rfl rfl ?_
                show Steps p.tables e below (T44.setTop (mkF m 73 #[.val (.ref a), .val (.ref b)] [(.ref b), (.long q6)])) _
                exact kk
              obtain ⟨T46, X46, e46, st46⟩ := getF X44 hx hZ hown (host := "") (Or.inl (hw _ (List.mem_of_getElem? (i := 115) rfl))) Via.refl e44 G_6 (g := (mkF m 73 #[.val (.ref a), .val (.ref b)] [(.ref b), (.long q6)])) rfl rfl (hb hby d21_73)
              have pre47 : ∀ tgt, Steps p.tables e below (T46.setTop (mkF m 77 #[.val (.ref a), .val (.ref b)] [(.int (lcmpW q6 r6))])) tgt → Steps p.tables e below (s₁.setTop (entryFrame m #[(.ref a), (.ref b)] 2)) tgt := by
                intro tgt kk
                refine pre45 tgt ?_
                refine st46 _ ?_
                show Steps p.tables e below (T46.setTop (mkF m 76 #[.val (.ref a), .val (.ref b)] [(.long r6), (.long q6)])) _
                refine XS.lcmp X46.here hx rfl (hb hby d21_76) rfl ?_
                show Steps p.tables e below (T46.setTop (mkF m 77 #[.val (.ref a), .val (.ref b)] [(.int (lcmpW q6 r6))])) _
                exact kk
              by_cases hc77_48 : q6 = r6
              · skip
                refine ⟨T46, _, X46, N34, e46, fun tgt kk => ?_⟩
                have kq50 : ((.int (bI ((cs1 = ds1) ∧ ((cs2 = ds2) ∧ ((cs3 = ds3) ∧ ((cs4 = ds4) ∧ ((q5 = r5) ∧ (q6 = r6)))))))) : Value) = (.int (1 : Int32)) := ((congrArg Value.int (bI_iff (and_iff_right hc11_9))).trans ((congrArg Value.int (bI_iff (and_iff_right hc25_18))).trans ((congrArg Value.int (bI_iff (and_iff_right hc39_27))).trans ((congrArg Value.int (bI_iff (and_iff_right hc53_36))).trans ((congrArg Value.int (bI_iff (and_iff_right hc65_42))).trans (congrArg Value.int (bI_t hc77_48)))))))
                rw [kq50] at kk
                refine pre47 tgt ?_
                refine XS.ifNo X46.here hx rfl (hb hby d21_77) rfl (XT.ll_ne_f hc77_48) ?_
                show Steps p.tables e below (T46.setTop (mkF m 80 #[.val (.ref a), .val (.ref b)] [])) _
                refine XS.iconst X46.here hx rfl (hb hby d21_80) ?_
                show Steps p.tables e below (T46.setTop (mkF m 81 #[.val (.ref a), .val (.ref b)] [(.int (1 : Int32))])) _
                refine XS.goto X46.here hx rfl (pc0 := 81) (pc' := 85) rfl (hb hby d21_81) (by decide) (by decide) ?_
                show Steps p.tables e below (T46.setTop (mkF m 85 #[.val (.ref a), .val (.ref b)] [(.int (1 : Int32))])) _
                exact kk
              · skip
                refine ⟨T46, _, X46, N34, e46, fun tgt kk => ?_⟩
                have kq51 : ((.int (bI ((cs1 = ds1) ∧ ((cs2 = ds2) ∧ ((cs3 = ds3) ∧ ((cs4 = ds4) ∧ ((q5 = r5) ∧ (q6 = r6)))))))) : Value) = (.int (0 : Int32)) := ((congrArg Value.int (bI_iff (and_iff_right hc11_9))).trans ((congrArg Value.int (bI_iff (and_iff_right hc25_18))).trans ((congrArg Value.int (bI_iff (and_iff_right hc39_27))).trans ((congrArg Value.int (bI_iff (and_iff_right hc53_36))).trans ((congrArg Value.int (bI_iff (and_iff_right hc65_42))).trans (congrArg Value.int (bI_f hc77_48)))))))
                rw [kq51] at kk
                refine pre47 tgt ?_
                refine XS.ifYes X46.here hx rfl (pc0 := 77) (pc' := 84) rfl (hb hby d21_77) rfl (XT.ll_ne_t hc77_48) (by decide) (by decide) ?_
                show Steps p.tables e below (T46.setTop (mkF m 84 #[.val (.ref a), .val (.ref b)] [])) _
                refine XS.iconst X46.here hx rfl (hb hby d21_84) ?_
                show Steps p.tables e below (T46.setTop (mkF m 85 #[.val (.ref a), .val (.ref b)] [(.int (0 : Int32))])) _
                exact kk
            · skip
              refine ⟨T40, _, X40, N34, e40, fun tgt kk => ?_⟩
              have kq52 : ((.int (bI ((cs1 = ds1) ∧ ((cs2 = ds2) ∧ ((cs3 = ds3) ∧ ((cs4 = ds4) ∧ ((q5 = r5) ∧ (q6 = r6)))))))) : Value) = (.int (0 : Int32)) := ((congrArg Value.int (bI_iff (and_iff_right hc11_9))).trans ((congrArg Value.int (bI_iff (and_iff_right hc25_18))).trans ((congrArg Value.int (bI_iff (and_iff_right hc39_27))).trans ((congrArg Value.int (bI_iff (and_iff_right hc53_36))).trans (congrArg Value.int (bI_f (fun q => hc65_42 q.1)))))))
              rw [kq52] at kk
              refine pre41 tgt ?_
              refine XS.ifYes X40.here hx rfl (pc0 := 65) (pc' := 84) rfl (hb hby d21_65) rfl (XT.ll_ne_t hc65_42) (by decide) (by decide) ?_
              show Steps p.tables e below (T40.setTop (mkF m 84 #[.val (.ref a), .val (.ref b)] [])) _
              refine XS.iconst X40.here hx rfl (hb hby d21_84) ?_
              show Steps p.tables e below (T40.setTop (mkF m 85 #[.val (.ref a), .val (.ref b)] [(.int (0 : Int32))])) _
              exact kk
          · skip
            refine ⟨T34, _, X34, N34, hh34, fun tgt kk => ?_⟩
            have kq53 : ((.int (bI ((cs1 = ds1) ∧ ((cs2 = ds2) ∧ ((cs3 = ds3) ∧ ((cs4 = ds4) ∧ ((q5 = r5) ∧ (q6 = r6)))))))) : Value) = (.int (0 : Int32)) := ((congrArg Value.int (bI_iff (and_iff_right hc11_9))).trans ((congrArg Value.int (bI_iff (and_iff_right hc25_18))).trans ((congrArg Value.int (bI_iff (and_iff_right hc39_27))).trans (congrArg Value.int (bI_f (fun q => hc53_36 q.1))))))
            rw [kq53] at kk
            refine pre35 tgt ?_
            refine XS.ifYes X34.here hx rfl (pc0 := 53) (pc' := 84) rfl (hb hby d21_53) rfl (bB_eq_t hc53_36) (by decide) (by decide) ?_
            show Steps p.tables e below (T34.setTop (mkF m 84 #[.val (.ref a), .val (.ref b)] [])) _
            refine XS.iconst X34.here hx rfl (hb hby d21_84) ?_
            show Steps p.tables e below (T34.setTop (mkF m 85 #[.val (.ref a), .val (.ref b)] [(.int (0 : Int32))])) _
            exact kk
        · skip
          refine ⟨T25, _, X25, N25, hh25, fun tgt kk => ?_⟩
          have kq54 : ((.int (bI ((cs1 = ds1) ∧ ((cs2 = ds2) ∧ ((cs3 = ds3) ∧ ((cs4 = ds4) ∧ ((q5 = r5) ∧ (q6 = r6)))))))) : Value) = (.int (0 : Int32)) := ((congrArg Value.int (bI_iff (and_iff_right hc11_9))).trans ((congrArg Value.int (bI_iff (and_iff_right hc25_18))).trans (congrArg Value.int (bI_f (fun q => hc39_27 q.1)))))
          rw [kq54] at kk
          refine pre26 tgt ?_
          refine XS.ifYes X25.here hx rfl (pc0 := 39) (pc' := 84) rfl (hb hby d21_39) rfl (bB_eq_t hc39_27) (by decide) (by decide) ?_
          show Steps p.tables e below (T25.setTop (mkF m 84 #[.val (.ref a), .val (.ref b)] [])) _
          refine XS.iconst X25.here hx rfl (hb hby d21_84) ?_
          show Steps p.tables e below (T25.setTop (mkF m 85 #[.val (.ref a), .val (.ref b)] [(.int (0 : Int32))])) _
          exact kk
      · skip
        refine ⟨T16, _, X16, N16, hh16, fun tgt kk => ?_⟩
        have kq55 : ((.int (bI ((cs1 = ds1) ∧ ((cs2 = ds2) ∧ ((cs3 = ds3) ∧ ((cs4 = ds4) ∧ ((q5 = r5) ∧ (q6 = r6)))))))) : Value) = (.int (0 : Int32)) := ((congrArg Value.int (bI_iff (and_iff_right hc11_9))).trans (congrArg Value.int (bI_f (fun q => hc25_18 q.1))))
        rw [kq55] at kk
        refine pre17 tgt ?_
        refine XS.ifYes X16.here hx rfl (pc0 := 25) (pc' := 84) rfl (hb hby d21_25) rfl (bB_eq_t hc25_18) (by decide) (by decide) ?_
        show Steps p.tables e below (T16.setTop (mkF m 84 #[.val (.ref a), .val (.ref b)] [])) _
        refine XS.iconst X16.here hx rfl (hb hby d21_84) ?_
        show Steps p.tables e below (T16.setTop (mkF m 85 #[.val (.ref a), .val (.ref b)] [(.int (0 : Int32))])) _
        exact kk
    · skip
      refine ⟨T7, _, X7, N7, hh7, fun tgt kk => ?_⟩
      have kq56 : ((.int (bI ((cs1 = ds1) ∧ ((cs2 = ds2) ∧ ((cs3 = ds3) ∧ ((cs4 = ds4) ∧ ((q5 = r5) ∧ (q6 = r6)))))))) : Value) = (.int (0 : Int32)) := (congrArg Value.int (bI_f (fun q => hc11_9 q.1)))
      rw [kq56] at kk
      refine pre8 tgt ?_
      refine XS.ifYes X7.here hx rfl (pc0 := 11) (pc' := 84) rfl (hb hby d21_11) rfl (bB_eq_t hc11_9) (by decide) (by decide) ?_
      show Steps p.tables e below (T7.setTop (mkF m 84 #[.val (.ref a), .val (.ref b)] [])) _
      refine XS.iconst X7.here hx rfl (hb hby d21_84) ?_
      show Steps p.tables e below (T7.setTop (mkF m 85 #[.val (.ref a), .val (.ref b)] [(.int (0 : Int32))])) _
      exact kk
  obtain ⟨fs, hr, hrun, hended, hW, hsame⟩ := X49.leave (v := some (.int (nar .boolean (bI ((cs1 = ds1) ∧ ((cs2 = ds2) ∧ ((cs3 = ds3) ∧ ((cs4 = ds4) ∧ ((q5 = r5) ∧ (q6 = r6)))))))))) (fun h => by rw [Bd.returns] at h; cases h)
  refine ⟨_, _, pre49 _ ?_, hrun, hended, _, _, rfl, ?_, ⟨_, rfl⟩, hW, hsame.mono (by decide) (by decide)⟩
  · skip
    exact retN X49 hx (t := .boolean) Bd.returns (by simp) (hb hby d21_85) hr
  · show QH Z a b x1 t1 k1 cs1 y1 u1 j1 ds1 x2 t2 k2 cs2 y2 u2 j2 ds2 x3 t3 k3 cs3 y3 u3 j3 ds3 x4 t4 k4 cs4 y4 u4 j4 ds4 q5 q6 r5 r6 z0 h0 n0 _ T49.heap _
    rw [e49]
    exact ⟨bI_ret, N49, rfl⟩
theorem pn_0 : plainName "com/example/leasehold/leasehold/LeaseRequestHasTermsOfPinLaw" = true := by first | (simp [plainName, overriddenIn]; done) | decide +kernel
theorem pd__JJ_J : parseMethodDescriptor "(JJ)J" = some ⟨[.long, .long], some .long⟩ := by decide +kernel
theorem pd__I_Ljava_lang_String_ : parseMethodDescriptor "(I)Ljava/lang/String;" = some ⟨[.int], some (.object "java/lang/String")⟩ := by decide +kernel
theorem pd__Ljava_lang_String_Ljava_lang_String_Ljava_lang_String_Ljava_lang_String_Ljava_lang_String_JJ_V : parseMethodDescriptor "(Ljava/lang/String;Ljava/lang/String;Ljava/lang/String;Ljava/lang/String;Ljava/lang/String;JJ)V" = some ⟨[(.object "java/lang/String"), (.object "java/lang/String"), (.object "java/lang/String"), (.object "java/lang/String"), (.object "java/lang/String"), .long, .long], none⟩ := by decide +kernel
theorem pd__Lcom_example_leasehold_leasehold_LeaseRequest__Z : parseMethodDescriptor "(Lcom/example/leasehold/leasehold/LeaseRequest;)Z" = some ⟨[(.object "com/example/leasehold/leasehold/LeaseRequest")], some .boolean⟩ := by decide +kernel
theorem ef_rm0 (m : MethodId) (x0 : Int32) (x1 : Int32) (x2 : Int64) (x3 : Int64) (x4 : Int64) (x5 : Int64) : entryFrame m #[(.int x0), (.int x1), (.long x2), (.long x3), (.long x4), (.long x5)] maxLocals = mkF m 0 #[.val (.int x0), .val (.int x1), .val (.long x2), .second, .val (.long x3), .second, .val (.long x4), .second, .val (.long x5), .second, .unset, .unset, .unset, .unset, .unset, .unset, .unset, .unset, .unset, .unset, .unset, .unset, .unset, .unset, .unset] [] := by first | (simp [entryFrame, mkF, argsToLocals, Value.category, maxLocals]; done) | rfl
def Q0 (Z : State) (p1 : Int32) (p2 : Int32) (p3 : Int64) (p4 : Int64) (p5 : Int64) (p6 : Int64) (z0 : Int32) (aA : Addr) (clA : Cell) (aI : Addr) (h0 : Heap) (n0 : Nat) (v : Option Value) (h : Heap) (L : List Loc) : Prop := v = some (.int (1 : Int32)) ∧ Fr n0 L
set_option maxRecDepth 65536 in
set_option maxHeartbeats 40000000 in
theorem rm0 (l : Launch) (Z : State) (a0 : Array Value) (hw : ∀ d ∈ tables_1, d.before a0 Z = true) (ws : List Jvm.Cond) (p1 : Int32) (p2 : Int32) (p3 : Int64) (p4 : Int64) (p5 : Int64) (p6 : Int64) (z0 : Int32) (aA : Addr) (clA : Cell) (aI : Addr) (h0 : Heap) (n0 : Nat) (Z0 : n0 ≤ h0.size) (S_CS : Sta Z h0 "java/lang/String" "COMPACT_STRINGS" "Z" (.int z0)) (S_A : Sta Z h0 "java/lang/CharacterDataLatin1" "A" "[I" (.ref aA)) (S_I : Sta Z h0 "java/lang/CharacterDataLatin1" "instance" "Ljava/lang/CharacterDataLatin1;" (.ref aI)) (E_I : Exa Z h0 aI "java/lang/CharacterDataLatin1") (Tb : Tab Z h0 aA clA .int (256 : Int32)) (hn112 : ¬ ((112 : Int32) = (32 : Int32)) ∧ ¬ ((112 : Int32) = (9 : Int32)) ∧ ¬ (((atv clA (112 : Int32)) &&& (28672 : Int32)) = (16384 : Int32))) (hn113 : ¬ ((113 : Int32) = (32 : Int32)) ∧ ¬ ((113 : Int32) = (9 : Int32)) ∧ ¬ (((atv clA (113 : Int32)) &&& (28672 : Int32)) = (16384 : Int32))) (hz : ¬ z0 = 0) :
    MetFree l x (head1 (Jvm.Cond.code x code maxLocals ret :: ws) room_1) (fun ar UU => ar = #[(.int p1), (.int p2), (.long p3), (.long p4), (.long p5), (.long p6)] ∧ Z.Warmed39 UU.vm ∧ UU.heap = h0 ∧ CHv Z own_EL UU.vm h0) (fun _ _ _ _ _ => True) (fun _ UU oo UU' => ∃ vv LL, oo = .returned vv ∧ Q0 Z p1 p2 p3 p4 p5 p6 z0 aA clA aI h0 n0 vv UU'.heap LL ∧ CHr Z own_EL UU.vm UU.heap UU'.vm UU'.heap ∧ ReturnedEndW UU oo UU' LL room_1.cells room_1.slots) := by
  refine MetFree.of_bodySF (plainFor_of_name pn_0) hisR ?_
  intro p e s m args below meth c s₁ Bd hml0 hP hK
  obtain ⟨rfl, hZ, hh, hCv⟩ := hP
  have hx := Bd.exec
  have hby := Bd.bytes
  have hml : c.maxLocals = 25 := hml0
  have hown : s.vm.findClass "com/example/leasehold/leasehold/LeaseRequestHasTermsOfPinLaw" = some m.cls := findClass_of_methodNamed Bd.named
  have hnm := (name_of_methodNamed Bd.named Bd.method).1
  have X0 : Stand p l e room_1 s m #[(.int p1), (.int p2), (.long p3), (.long p4), (.long p5), (.long p6)] below meth c s₁ [] 0 0 := Stand.of_body Bd
  have e0 : s₁.heap = h0 := by rw [← hh, Bd.state]; rfl
  have N0 := Fr.nil n0
  have hEL : EW Z a0 own_EL := own_EW hw
  have CH0 : CHr Z own_EL s.vm h0 s.vm h0 := CHr.refl hCv
  have KC0 : Keep h0 h0 [] := Keep.refl h0 []
  have pre0 : ∀ tgt, Steps p.tables e below (s₁.setTop (mkF m 0 #[.val (.int p1), .val (.int p2), .val (.long p3), .second, .val (.long p4), .second, .val (.long p5), .second, .val (.long p6), .second, .unset, .unset, .unset, .unset, .unset, .unset, .unset, .unset, .unset, .unset, .unset, .unset, .unset, .unset, .unset] [])) tgt → Steps p.tables e below (s₁.setTop (entryFrame m #[(.int p1), (.int p2), (.long p3), (.long p4), (.long p5), (.long p6)] maxLocals)) tgt := fun tgt kk => castTop (ef_rm0 m (p1) (p2) (p3) (p4) (p5) (p6)) kk
  have pre1 : ∀ tgt, Steps p.tables e below (s₁.setTop (mkF m 3 #[.val (.int p1), .val (.int p2), .val (.long p3), .second, .val (.long p4), .second, .val (.long p5), .second, .val (.long p6), .second, .unset, .unset, .unset, .unset, .unset, .unset, .unset, .unset, .unset, .unset, .unset, .unset, .unset, .unset, .unset] [(.long p5), (.long (1 : Int64))])) tgt → Steps p.tables e below (s₁.setTop (entryFrame m #[(.int p1), (.int p2), (.long p3), (.long p4), (.long p5), (.long p6)] maxLocals)) tgt := by
    intro tgt kk
    refine pre0 tgt ?_
    refine XS.lconst X0.here hx rfl (hb hby at_0) ?_
    show Steps p.tables e below (s₁.setTop (mkF m 1 #[.val (.int p1), .val (.int p2), .val (.long p3), .second, .val (.long p4), .second, .val (.long p5), .second, .val (.long p6), .second, .unset, .unset, .unset, .unset, .unset, .unset, .unset, .unset, .unset, .unset, .unset, .unset, .unset, .unset, .unset] [(.long (1 : Int64))])) _
    refine XS.lload X0.here hx rfl (hb hby at_1) rfl ?_
    show Steps p.tables e below (s₁.setTop (mkF m 3 #[.val (.int p1), .val (.int p2), .val (.long p3), .second, .val (.long p4), .second, .val (.long p5), .second, .val (.long p6), .second, .unset, .unset, .unset, .unset, .unset, .unset, .unset, .unset, .unset, .unset, .unset, .unset, .unset, .unset, .unset] [(.long p5), (.long (1 : Int64))])) _
    exact kk
  obtain ⟨_, _, ⟨T2, L2, k2, n2⟩, -, X2, ⟨Lc2, hQ2, l2, y2, z2⟩, st2⟩ := Jvm.LawKit.callS X0 hx (y := (⟨"java/lang/Math", "max", "(JJ)J"⟩ : MethodName)) hown (mvT hZ (hw _ (List.mem_of_getElem? (i := 0) rfl))) (mvT hZ (hw _ (List.mem_of_getElem? (i := 1) rfl))) (mvT hZ (hw _ (List.mem_of_getElem? (i := 2) rfl))) (mvT hZ (hw _ (List.mem_of_getElem? (i := 3) rfl))) (by decide) (backOf (W := 0) (rmMax l Z a0 hw [] (1 : Int64) p5 h0 n0 Z0) hZ (hw _ (List.mem_of_getElem? (i := 3) rfl)) (hw _ (List.mem_of_getElem? (i := 2) rfl)) (by decide) (by decide)) (g := (mkF m 3 #[.val (.int p1), .val (.int p2), .val (.long p3), .second, .val (.long p4), .second, .val (.long p5), .second, .val (.long p6), .second, .unset, .unset, .unset, .unset, .unset, .unset, .unset, .unset, .unset, .unset, .unset, .unset, .unset, .unset, .unset] [(.long p5), (.long (1 : Int64))])) rfl (by rw [hml]; rfl) (argsL := [(.long (1 : Int64)), (.long p5)]) (rest := []) (lenOf pd__JJ_J rfl) rfl (by show 2 * 0 + _ ≤ _; exact Nat.le_of_eq rfl) (hb hby at_3) (fun _ _ => ⟨rfl, e0, (by decide : 0 + 0 ≤ _), (by decide : 0 + 0 ≤ _)⟩)
  dsimp only [Pt.U, Pt.locs, Pt.cells, Pt.slots] at X2 l2 y2 z2 st2 hQ2
  subst l2 y2 z2
  obtain ⟨rfl, N2q, hh2⟩ := hQ2
  have N2 := Fr.app N0 N2q
  have pre3 : ∀ tgt, Steps p.tables e below (T2.setTop (mkF m 11 #[.val (.int p1), .val (.int p2), .val (.long p3), .second, .val (.long p4), .second, .val (.long p5), .second, .val (.long p6), .second, .val (.long (if (1 : Int64) < p5 then p5 else (1 : Int64))), .second, .unset, .unset, .unset, .unset, .unset, .unset, .unset, .unset, .unset, .unset, .unset, .unset, .unset] [(.long p6), (.long (1 : Int64))])) tgt → Steps p.tables e below (s₁.setTop (entryFrame m #[(.int p1), (.int p2), (.long p3), (.long p4), (.long p5), (.long p6)] maxLocals)) tgt := by
    intro tgt kk
    refine pre1 tgt ?_
    refine st2 _ ?_
    show Steps p.tables e below (T2.setTop (mkF m 6 #[.val (.int p1), .val (.int p2), .val (.long p3), .second, .val (.long p4), .second, .val (.long p5), .second, .val (.long p6), .second, .unset, .unset, .unset, .unset, .unset, .unset, .unset, .unset, .unset, .unset, .unset, .unset, .unset, .unset, .unset] [(.long (if (1 : Int64) < p5 then p5 else (1 : Int64)))])) _
    refine XS.lstore X2.here hx rfl (hb hby at_6) rfl (l' := #[.val (.int p1), .val (.int p2), .val (.long p3), .second, .val (.long p4), .second, .val (.long p5), .second, .val (.long p6), .second, .val (.long (if (1 : Int64) < p5 then p5 else (1 : Int64))), .second, .unset, .unset, .unset, .unset, .unset, .unset, .unset, .unset, .unset, .unset, .unset, .unset, .unset]) rfl ?_
    show Steps p.tables e below (T2.setTop (mkF m 8 #[.val (.int p1), .val (.int p2), .val (.long p3), .second, .val (.long p4), .second, .val (.long p5), .second, .val (.long p6), .second, .val (.long (if (1 : Int64) < p5 then p5 else (1 : Int64))), .second, .unset, .unset, .unset, .unset, .unset, .unset, .unset, .unset, .unset, .unset, .unset, .unset, .unset] [])) _
    refine XS.lconst X2.here hx rfl (hb hby at_8) ?_
    show Steps p.tables e below (T2.setTop (mkF m 9 #[.val (.int p1), .val (.int p2), .val (.long p3), .second, .val (.long p4), .second, .val (.long p5), .second, .val (.long p6), .second, .val (.long (if (1 : Int64) < p5 then p5 else (1 : Int64))), .second, .unset, .unset, .unset, .unset, .unset, .unset, .unset, .unset, .unset, .unset, .unset, .unset, .unset] [(.long (1 : Int64))])) _
    refine XS.lload X2.here hx rfl (hb hby at_9) rfl ?_
    show Steps p.tables e below (T2.setTop (mkF m 11 #[.val (.int p1), .val (.int p2), .val (.long p3), .second, .val (.long p4), .second, .val (.long p5), .second, .val (.long p6), .second, .val (.long (if (1 : Int64) < p5 then p5 else (1 : Int64))), .second, .unset, .unset, .unset, .unset, .unset, .unset, .unset, .unset, .unset, .unset, .unset, .unset, .unset] [(.long p6), (.long (1 : Int64))])) _
    exact kk
  obtain ⟨_, _, ⟨T4, L4, k4, n4⟩, -, X4, ⟨Lc4, hQ4, l4, y4, z4⟩, st4⟩ := Jvm.LawKit.callS X2 hx (y := (⟨"java/lang/Math", "max", "(JJ)J"⟩ : MethodName)) hown (mvT hZ (hw _ (List.mem_of_getElem? (i := 0) rfl))) (mvT hZ (hw _ (List.mem_of_getElem? (i := 1) rfl))) (mvT hZ (hw _ (List.mem_of_getElem? (i := 2) rfl))) (mvT hZ (hw _ (List.mem_of_getElem? (i := 3) rfl))) (by decide) (backOf (W := 0) (rmMax l Z a0 hw [] (1 : Int64) p6 h0 n0 Z0) hZ (hw _ (List.mem_of_getElem? (i := 3) rfl)) (hw _ (List.mem_of_getElem? (i := 2) rfl)) (by decide) (by decide)) (g := (mkF m 11 #[.val (.int p1), .val (.int p2), .val (.long p3), .second, .val (.long p4), .second, .val (.long p5), .second, .val (.long p6), .second, .val (.long (if (1 : Int64) < p5 then p5 else (1 : Int64))), .second, .unset, .unset, .unset, .unset, .unset, .unset, .unset, .unset, .unset, .unset, .unset, .unset, .unset] [(.long p6), (.long (1 : Int64))])) rfl (by rw [hml]; rfl) (argsL := [(.long (1 : Int64)), (.long p6)]) (rest := []) (lenOf pd__JJ_J rfl) rfl (by show 2 * 0 + _ ≤ _; exact Nat.le_of_eq rfl) (hb hby at_11) (fun _ _ => ⟨rfl, hh2, (by decide : 0 + 0 ≤ _), (by decide : 0 + 0 ≤ _)⟩)
  dsimp only [Pt.U, Pt.locs, Pt.cells, Pt.slots] at X4 l4 y4 z4 st4 hQ4
  subst l4 y4 z4
  obtain ⟨rfl, N4q, hh4⟩ := hQ4
  have N4 := Fr.app N2 N4q
  have pre5 : ∀ tgt, Steps p.tables e below (T4.setTop (mkF m 21 #[.val (.int p1), .val (.int p2), .val (.long p3), .second, .val (.long p4), .second, .val (.long p5), .second, .val (.long p6), .second, .val (.long (if (1 : Int64) < p5 then p5 else (1 : Int64))), .second, .val (.long (if (1 : Int64) < p6 then p6 else (1 : Int64))), .second, .unset, .unset, .unset, .unset, .unset, .unset, .unset, .unset, .unset, .unset, .unset] [(.int (p1 &&& (255 : Int32)))])) tgt → Steps p.tables e below (s₁.setTop (entryFrame m #[(.int p1), (.int p2), (.long p3), (.long p4), (.long p5), (.long p6)] maxLocals)) tgt := by
    intro tgt kk
    refine pre3 tgt ?_
    refine st4 _ ?_
    show Steps p.tables e below (T4.setTop (mkF m 14 #[.val (.int p1), .val (.int p2), .val (.long p3), .second, .val (.long p4), .second, .val (.long p5), .second, .val (.long p6), .second, .val (.long (if (1 : Int64) < p5 then p5 else (1 : Int64))), .second, .unset, .unset, .unset, .unset, .unset, .unset, .unset, .unset, .unset, .unset, .unset, .unset, .unset] [(.long (if (1 : Int64) < p6 then p6 else (1 : Int64)))])) _
    refine XS.lstore X4.here hx rfl (hb hby at_14) rfl (l' := #[.val (.int p1), .val (.int p2), .val (.long p3), .second, .val (.long p4), .second, .val (.long p5), .second, .val (.long p6), .second, .val (.long (if (1 : Int64) < p5 then p5 else (1 : Int64))), .second, .val (.long (if (1 : Int64) < p6 then p6 else (1 : Int64))), .second, .unset, .unset, .unset, .unset, .unset, .unset, .unset, .unset, .unset, .unset, .unset]) rfl ?_
    show Steps p.tables e below (T4.setTop (mkF m 16 #[.val (.int p1), .val (.int p2), .val (.long p3), .second, .val (.long p4), .second, .val (.long p5), .second, .val (.long p6), .second, .val (.long (if (1 : Int64) < p5 then p5 else (1 : Int64))), .second, .val (.long (if (1 : Int64) < p6 then p6 else (1 : Int64))), .second, .unset, .unset, .unset, .unset, .unset, .unset, .unset, .unset, .unset, .unset, .unset] [])) _
    refine XS.iloadN X4.here hx rfl (hb hby at_16) rfl ?_
    show Steps p.tables e below (T4.setTop (mkF m 17 #[.val (.int p1), .val (.int p2), .val (.long p3), .second, .val (.long p4), .second, .val (.long p5), .second, .val (.long p6), .second, .val (.long (if (1 : Int64) < p5 then p5 else (1 : Int64))), .second, .val (.long (if (1 : Int64) < p6 then p6 else (1 : Int64))), .second, .unset, .unset, .unset, .unset, .unset, .unset, .unset, .unset, .unset, .unset, .unset] [(.int p1)])) _
    refine XS.sipush X4.here hx rfl (hb hby at_17) ?_
    show Steps p.tables e below (T4.setTop (mkF m 20 #[.val (.int p1), .val (.int p2), .val (.long p3), .second, .val (.long p4), .second, .val (.long p5), .second, .val (.long p6), .second, .val (.long (if (1 : Int64) < p5 then p5 else (1 : Int64))), .second, .val (.long (if (1 : Int64) < p6 then p6 else (1 : Int64))), .second, .unset, .unset, .unset, .unset, .unset, .unset, .unset, .unset, .unset, .unset, .unset] [(.int (255 : Int32)), (.int p1)])) _
    refine XS.iand X4.here hx rfl (hb hby at_20) rfl ?_
    show Steps p.tables e below (T4.setTop (mkF m 21 #[.val (.int p1), .val (.int p2), .val (.long p3), .second, .val (.long p4), .second, .val (.long p5), .second, .val (.long p6), .second, .val (.long (if (1 : Int64) < p5 then p5 else (1 : Int64))), .second, .val (.long (if (1 : Int64) < p6 then p6 else (1 : Int64))), .second, .unset, .unset, .unset, .unset, .unset, .unset, .unset, .unset, .unset, .unset, .unset] [(.int (p1 &&& (255 : Int32)))])) _
    exact kk
  have lt6_0 := E_I.lt
  obtain ⟨_, _, ⟨T7, L7, k7, n7⟩, -, X7, ⟨Lc7, hQ7, l7, y7, z7⟩, st7⟩ := Jvm.LawKit.callS X4 hx (y := (⟨"com/example/leasehold/leasehold/LeaseRequestHasTermsOfPinLaw", "str", "(I)Ljava/lang/String;"⟩ : MethodName)) hown (mvT hZ (hw _ (List.mem_of_getElem? (i := 4) rfl))) (mvT hZ (hw _ (List.mem_of_getElem? (i := 5) rfl))) (mvT hZ (hw _ (List.mem_of_getElem? (i := 6) rfl))) (mvT hZ (hw _ (List.mem_of_getElem? (i := 7) rfl))) (by decide) (backOf (W := 0) (rmStr l Z a0 hw [] ((p1 &&& (255 : Int32))) z0 h0 n0 Z0 S_CS hz) hZ (hw _ (List.mem_of_getElem? (i := 7) rfl)) (hw _ (List.mem_of_getElem? (i := 6) rfl)) (by decide) (by decide)) (g := (mkF m 21 #[.val (.int p1), .val (.int p2), .val (.long p3), .second, .val (.long p4), .second, .val (.long p5), .second, .val (.long p6), .second, .val (.long (if (1 : Int64) < p5 then p5 else (1 : Int64))), .second, .val (.long (if (1 : Int64) < p6 then p6 else (1 : Int64))), .second, .unset, .unset, .unset, .unset, .unset, .unset, .unset, .unset, .unset, .unset, .unset] [(.int (p1 &&& (255 : Int32)))])) rfl (by rw [hml]; rfl) (argsL := [(.int (p1 &&& (255 : Int32)))]) (rest := []) (lenOf pd__I_Ljava_lang_String_ rfl) rfl (by show 2 * 0 + _ ≤ _; exact Nat.le_of_eq rfl) (hb hby at_21) (fun _ _ => ⟨rfl, hh4, (by decide : 0 + 3 ≤ _), (by decide : 0 + 8 ≤ _)⟩)
  dsimp only [Pt.U, Pt.locs, Pt.cells, Pt.slots] at X7 l7 y7 z7 st7 hQ7
  subst l7 y7 z7
  obtain ⟨r7, t7, kk7, rfl, N7q, K7, gr7, sr7, gt7, st_7, Qe7, Qv7, Qc7, Qa7⟩ := hQ7
  have N7 := Fr.app N4 N7q
  have CA8 : CHr Z own_EL s.vm h0 s.vm T7.heap := CHr.keep K7 sf0 CH0.1
  have CH8 : CHr Z own_EL s.vm h0 s.vm T7.heap := CH0.trans CA8
  have S_CS : Sta Z T7.heap "java/lang/String" "COMPACT_STRINGS" "Z" (.int z0) := own_sta_keep S_CS K7 all0
  have S_A : Sta Z T7.heap "java/lang/CharacterDataLatin1" "A" "[I" (.ref aA) := own_sta_keep S_A K7 all0
  have S_I : Sta Z T7.heap "java/lang/CharacterDataLatin1" "instance" "Ljava/lang/CharacterDataLatin1;" (.ref aI) := own_sta_keep S_I K7 all0
  have E_I : Exa Z T7.heap aI "java/lang/CharacterDataLatin1" := E_I.keep K7
  have Zs9 : n0 ≤ T7.heap.size := Nat.le_trans Z0 K7.1
  have KC9 : Keep h0 T7.heap [] := KC0.trans K7 all0
  have ner7lt6_0 : aI ≠ r7 := Nat.ne_of_lt (Nat.lt_of_lt_of_le lt6_0 sr7)
  have net7lt6_0 : aI ≠ t7 := Nat.ne_of_lt (Nat.lt_of_lt_of_le lt6_0 st_7)
  have szr7 : h0.size ≤ r7 := Nat.le_trans KC0.1 sr7
  have szt7 : h0.size ≤ t7 := Nat.le_trans KC0.1 st_7
  have E_r7 : Exa Z T7.heap r7 "java/lang/String" := Qe7
  have Fv_r7 : Fld Z T7.heap r7 "java/lang/String" "value" "[B" (.ref t7) := Qv7
  have Fc_r7 : Fld Z T7.heap r7 "java/lang/String" "coder" "B" (.int (0 : Int32)) := Qc7
  have V_r7 : Arv Z T7.heap t7 kk7 .byte (Int32.ofNat (own_sv (p1 &&& (255 : Int32))).length) (((own_sv (p1 &&& (255 : Int32))).map (fun c => c.toInt8.toInt32)).map Value.int) (.int (0 : Int32)) := Qa7
  have pre10 : ∀ tgt, Steps p.tables e below (T7.setTop (mkF m 34 #[.val (.int p1), .val (.int p2), .val (.long p3), .second, .val (.long p4), .second, .val (.long p5), .second, .val (.long p6), .second, .val (.long (if (1 : Int64) < p5 then p5 else (1 : Int64))), .second, .val (.long (if (1 : Int64) < p6 then p6 else (1 : Int64))), .second, .val (.ref r7), .unset, .unset, .unset, .unset, .unset, .unset, .unset, .unset, .unset, .unset] [(.int (((p1.toUInt32 >>> ((8 : Int32) &&& 31).toUInt32).toInt32) &&& (255 : Int32)))])) tgt → Steps p.tables e below (s₁.setTop (entryFrame m #[(.int p1), (.int p2), (.long p3), (.long p4), (.long p5), (.long p6)] maxLocals)) tgt := by
    intro tgt kk
    refine pre5 tgt ?_
    refine st7 _ ?_
    show Steps p.tables e below (T7.setTop (mkF m 24 #[.val (.int p1), .val (.int p2), .val (.long p3), .second, .val (.long p4), .second, .val (.long p5), .second, .val (.long p6), .second, .val (.long (if (1 : Int64) < p5 then p5 else (1 : Int64))), .second, .val (.long (if (1 : Int64) < p6 then p6 else (1 : Int64))), .second, .unset, .unset, .unset, .unset, .unset, .unset, .unset, .unset, .unset, .unset, .unset] [(.ref r7)])) _
    refine XS.astore X7.here hx rfl (hb hby at_24) rfl rfl (l' := #[.val (.int p1), .val (.int p2), .val (.long p3), .second, .val (.long p4), .second, .val (.long p5), .second, .val (.long p6), .second, .val (.long (if (1 : Int64) < p5 then p5 else (1 : Int64))), .second, .val (.long (if (1 : Int64) < p6 then p6 else (1 : Int64))), .second, .val (.ref r7), .unset, .unset, .unset, .unset, .unset, .unset, .unset, .unset, .unset, .unset]) rfl ?_
    show Steps p.tables e below (T7.setTop (mkF m 26 #[.val (.int p1), .val (.int p2), .val (.long p3), .second, .val (.long p4), .second, .val (.long p5), .second, .val (.long p6), .second, .val (.long (if (1 : Int64) < p5 then p5 else (1 : Int64))), .second, .val (.long (if (1 : Int64) < p6 then p6 else (1 : Int64))), .second, .val (.ref r7), .unset, .unset, .unset, .unset, .unset, .unset, .unset, .unset, .unset, .unset] [])) _
    refine XS.iloadN X7.here hx rfl (hb hby at_26) rfl ?_
    show Steps p.tables e below (T7.setTop (mkF m 27 #[.val (.int p1), .val (.int p2), .val (.long p3), .second, .val (.long p4), .second, .val (.long p5), .second, .val (.long p6), .second, .val (.long (if (1 : Int64) < p5 then p5 else (1 : Int64))), .second, .val (.long (if (1 : Int64) < p6 then p6 else (1 : Int64))), .second, .val (.ref r7), .unset, .unset, .unset, .unset, .unset, .unset, .unset, .unset, .unset, .unset] [(.int p1)])) _
    refine XS.bipush X7.here hx rfl (hb hby at_27) ?_
    show Steps p.tables e below (T7.setTop (mkF m 29 #[.val (.int p1), .val (.int p2), .val (.long p3), .second, .val (.long p4), .second, .val (.long p5), .second, .val (.long p6), .second, .val (.long (if (1 : Int64) < p5 then p5 else (1 : Int64))), .second, .val (.long (if (1 : Int64) < p6 then p6 else (1 : Int64))), .second, .val (.ref r7), .unset, .unset, .unset, .unset, .unset, .unset, .unset, .unset, .unset, .unset] [(.int (8 : Int32)), (.int p1)])) _
    refine XS.iushr X7.here hx rfl (hb hby at_29) rfl ?_
    show Steps p.tables e below (T7.setTop (mkF m 30 #[.val (.int p1), .val (.int p2), .val (.long p3), .second, .val (.long p4), .second, .val (.long p5), .second, .val (.long p6), .second, .val (.long (if (1 : Int64) < p5 then p5 else (1 : Int64))), .second, .val (.long (if (1 : Int64) < p6 then p6 else (1 : Int64))), .second, .val (.ref r7), .unset, .unset, .unset, .unset, .unset, .unset, .unset, .unset, .unset, .unset] [(.int ((p1.toUInt32 >>> ((8 : Int32) &&& 31).toUInt32).toInt32))])) _
    refine XS.sipush X7.here hx rfl (hb hby at_30) ?_
    show Steps p.tables e below (T7.setTop (mkF m 33 #[.val (.int p1), .val (.int p2), .val (.long p3), .second, .val (.long p4), .second, .val (.long p5), .second, .val (.long p6), .second, .val (.long (if (1 : Int64) < p5 then p5 else (1 : Int64))), .second, .val (.long (if (1 : Int64) < p6 then p6 else (1 : Int64))), .second, .val (.ref r7), .unset, .unset, .unset, .unset, .unset, .unset, .unset, .unset, .unset, .unset] [(.int (255 : Int32)), (.int ((p1.toUInt32 >>> ((8 : Int32) &&& 31).toUInt32).toInt32))])) _
    refine XS.iand X7.here hx rfl (hb hby at_33) rfl ?_
    show Steps p.tables e below (T7.setTop (mkF m 34 #[.val (.int p1), .val (.int p2), .val (.long p3), .second, .val (.long p4), .second, .val (.long p5), .second, .val (.long p6), .second, .val (.long (if (1 : Int64) < p5 then p5 else (1 : Int64))), .second, .val (.long (if (1 : Int64) < p6 then p6 else (1 : Int64))), .second, .val (.ref r7), .unset, .unset, .unset, .unset, .unset, .unset, .unset, .unset, .unset, .unset] [(.int (((p1.toUInt32 >>> ((8 : Int32) &&& 31).toUInt32).toInt32) &&& (255 : Int32)))])) _
    exact kk
  have lt11_0 := E_I.lt
  have lt11_1 := E_r7.lt
  have lt11_2 := V_r7.lt
  obtain ⟨_, _, ⟨T12, L12, k12, n12⟩, -, X12, ⟨Lc12, hQ12, l12, y12, z12⟩, st12⟩ := Jvm.LawKit.callS X7 hx (y := (⟨"com/example/leasehold/leasehold/LeaseRequestHasTermsOfPinLaw", "str", "(I)Ljava/lang/String;"⟩ : MethodName)) hown (mvT hZ (hw _ (List.mem_of_getElem? (i := 4) rfl))) (mvT hZ (hw _ (List.mem_of_getElem? (i := 5) rfl))) (mvT hZ (hw _ (List.mem_of_getElem? (i := 6) rfl))) (mvT hZ (hw _ (List.mem_of_getElem? (i := 7) rfl))) (by decide) (backOf (W := 0) (rmStr l Z a0 hw [] ((((p1.toUInt32 >>> ((8 : Int32) &&& 31).toUInt32).toInt32) &&& (255 : Int32))) z0 T7.heap n0 Zs9 S_CS hz) hZ (hw _ (List.mem_of_getElem? (i := 7) rfl)) (hw _ (List.mem_of_getElem? (i := 6) rfl)) (by decide) (by decide)) (g := (mkF m 34 #[.val (.int p1), .val (.int p2), .val (.long p3), .second, .val (.long p4), .second, .val (.long p5), .second, .val (.long p6), .second, .val (.long (if (1 : Int64) < p5 then p5 else (1 : Int64))), .second, .val (.long (if (1 : Int64) < p6 then p6 else (1 : Int64))), .second, .val (.ref r7), .unset, .unset, .unset, .unset, .unset, .unset, .unset, .unset, .unset, .unset] [(.int (((p1.toUInt32 >>> ((8 : Int32) &&& 31).toUInt32).toInt32) &&& (255 : Int32)))])) rfl (by rw [hml]; rfl) (argsL := [(.int (((p1.toUInt32 >>> ((8 : Int32) &&& 31).toUInt32).toInt32) &&& (255 : Int32)))]) (rest := []) (lenOf pd__I_Ljava_lang_String_ rfl) rfl (by show 2 * 0 + _ ≤ _; exact Nat.le_of_eq rfl) (hb hby at_34) (fun _ _ => ⟨rfl, rfl, (by decide : 3 + 3 ≤ _), (by decide : 8 + 8 ≤ _)⟩)
  dsimp only [Pt.U, Pt.locs, Pt.cells, Pt.slots] at X12 l12 y12 z12 st12 hQ12
  subst l12 y12 z12
  obtain ⟨r12, t12, kk12, rfl, N12q, K12, gr12, sr12, gt12, st_12, Qe12, Qv12, Qc12, Qa12⟩ := hQ12
  have N12 := Fr.app N7 N12q
  have CA13 : CHr Z own_EL s.vm T7.heap s.vm T12.heap := CHr.keep K12 sf0 CH8.1
  have CH13 : CHr Z own_EL s.vm h0 s.vm T12.heap := CH8.trans CA13
  have S_CS : Sta Z T12.heap "java/lang/String" "COMPACT_STRINGS" "Z" (.int z0) := own_sta_keep S_CS K12 all0
  have S_A : Sta Z T12.heap "java/lang/CharacterDataLatin1" "A" "[I" (.ref aA) := own_sta_keep S_A K12 all0
  have S_I : Sta Z T12.heap "java/lang/CharacterDataLatin1" "instance" "Ljava/lang/CharacterDataLatin1;" (.ref aI) := own_sta_keep S_I K12 all0
  have E_I : Exa Z T12.heap aI "java/lang/CharacterDataLatin1" := E_I.keep K12
  have E_r7 : Exa Z T12.heap r7 "java/lang/String" := E_r7.keep K12
  have Fv_r7 : Fld Z T12.heap r7 "java/lang/String" "value" "[B" (.ref t7) := Fv_r7.keep K12 nin0
  have Fc_r7 : Fld Z T12.heap r7 "java/lang/String" "coder" "B" (.int (0 : Int32)) := Fc_r7.keep K12 nin0
  have V_r7 : Arv Z T12.heap t7 kk7 .byte (Int32.ofNat (own_sv (p1 &&& (255 : Int32))).length) (((own_sv (p1 &&& (255 : Int32))).map (fun c => c.toInt8.toInt32)).map Value.int) (.int (0 : Int32)) := V_r7.keep K12 nin0
  have Zs14 : n0 ≤ T12.heap.size := Nat.le_trans Zs9 K12.1
  have KC14 : Keep h0 T12.heap [] := KC9.trans K12 all0
  have ner12lt11_0 : aI ≠ r12 := Nat.ne_of_lt (Nat.lt_of_lt_of_le lt11_0 sr12)
  have net12lt11_0 : aI ≠ t12 := Nat.ne_of_lt (Nat.lt_of_lt_of_le lt11_0 st_12)
  have ner12lt11_1 : r7 ≠ r12 := Nat.ne_of_lt (Nat.lt_of_lt_of_le lt11_1 sr12)
  have net12lt11_1 : r7 ≠ t12 := Nat.ne_of_lt (Nat.lt_of_lt_of_le lt11_1 st_12)
  have ner12lt11_2 : t7 ≠ r12 := Nat.ne_of_lt (Nat.lt_of_lt_of_le lt11_2 sr12)
  have net12lt11_2 : t7 ≠ t12 := Nat.ne_of_lt (Nat.lt_of_lt_of_le lt11_2 st_12)
  have szr12 : h0.size ≤ r12 := Nat.le_trans KC9.1 sr12
  have szt12 : h0.size ≤ t12 := Nat.le_trans KC9.1 st_12
  have E_r12 : Exa Z T12.heap r12 "java/lang/String" := Qe12
  have Fv_r12 : Fld Z T12.heap r12 "java/lang/String" "value" "[B" (.ref t12) := Qv12
  have Fc_r12 : Fld Z T12.heap r12 "java/lang/String" "coder" "B" (.int (0 : Int32)) := Qc12
  have V_r12 : Arv Z T12.heap t12 kk12 .byte (Int32.ofNat (own_sv (((p1.toUInt32 >>> ((8 : Int32) &&& 31).toUInt32).toInt32) &&& (255 : Int32))).length) (((own_sv (((p1.toUInt32 >>> ((8 : Int32) &&& 31).toUInt32).toInt32) &&& (255 : Int32))).map (fun c => c.toInt8.toInt32)).map Value.int) (.int (0 : Int32)) := Qa12
  have pre15 : ∀ tgt, Steps p.tables e below (T12.setTop (mkF m 47 #[.val (.int p1), .val (.int p2), .val (.long p3), .second, .val (.long p4), .second, .val (.long p5), .second, .val (.long p6), .second, .val (.long (if (1 : Int64) < p5 then p5 else (1 : Int64))), .second, .val (.long (if (1 : Int64) < p6 then p6 else (1 : Int64))), .second, .val (.ref r7), .val (.ref r12), .unset, .unset, .unset, .unset, .unset, .unset, .unset, .unset, .unset] [(.int (((p1.toUInt32 >>> ((16 : Int32) &&& 31).toUInt32).toInt32) &&& (255 : Int32)))])) tgt → Steps p.tables e below (s₁.setTop (entryFrame m #[(.int p1), (.int p2), (.long p3), (.long p4), (.long p5), (.long p6)] maxLocals)) tgt := by
    intro tgt kk
    refine pre10 tgt ?_
    refine st12 _ ?_
    show Steps p.tables e below (T12.setTop (mkF m 37 #[.val (.int p1), .val (.int p2), .val (.long p3), .second, .val (.long p4), .second, .val (.long p5), .second, .val (.long p6), .second, .val (.long (if (1 : Int64) < p5 then p5 else (1 : Int64))), .second, .val (.long (if (1 : Int64) < p6 then p6 else (1 : Int64))), .second, .val (.ref r7), .unset, .unset, .unset, .unset, .unset, .unset, .unset, .unset, .unset, .unset] [(.ref r12)])) _
    refine XS.astore X12.here hx rfl (hb hby at_37) rfl rfl (l' := #[.val (.int p1), .val (.int p2), .val (.long p3), .second, .val (.long p4), .second, .val (.long p5), .second, .val (.long p6), .second, .val (.long (if (1 : Int64) < p5 then p5 else (1 : Int64))), .second, .val (.long (if (1 : Int64) < p6 then p6 else (1 : Int64))), .second, .val (.ref r7), .val (.ref r12), .unset, .unset, .unset, .unset, .unset, .unset, .unset, .unset, .unset]) rfl ?_
    show Steps p.tables e below (T12.setTop (mkF m 39 #[.val (.int p1), .val (.int p2), .val (.long p3), .second, .val (.long p4), .second, .val (.long p5), .second, .val (.long p6), .second, .val (.long (if (1 : Int64) < p5 then p5 else (1 : Int64))), .second, .val (.long (if (1 : Int64) < p6 then p6 else (1 : Int64))), .second, .val (.ref r7), .val (.ref r12), .unset, .unset, .unset, .unset, .unset, .unset, .unset, .unset, .unset] [])) _
    refine XS.iloadN X12.here hx rfl (hb hby at_39) rfl ?_
    show Steps p.tables e below (T12.setTop (mkF m 40 #[.val (.int p1), .val (.int p2), .val (.long p3), .second, .val (.long p4), .second, .val (.long p5), .second, .val (.long p6), .second, .val (.long (if (1 : Int64) < p5 then p5 else (1 : Int64))), .second, .val (.long (if (1 : Int64) < p6 then p6 else (1 : Int64))), .second, .val (.ref r7), .val (.ref r12), .unset, .unset, .unset, .unset, .unset, .unset, .unset, .unset, .unset] [(.int p1)])) _
    refine XS.bipush X12.here hx rfl (hb hby at_40) ?_
    show Steps p.tables e below (T12.setTop (mkF m 42 #[.val (.int p1), .val (.int p2), .val (.long p3), .second, .val (.long p4), .second, .val (.long p5), .second, .val (.long p6), .second, .val (.long (if (1 : Int64) < p5 then p5 else (1 : Int64))), .second, .val (.long (if (1 : Int64) < p6 then p6 else (1 : Int64))), .second, .val (.ref r7), .val (.ref r12), .unset, .unset, .unset, .unset, .unset, .unset, .unset, .unset, .unset] [(.int (16 : Int32)), (.int p1)])) _
    refine XS.iushr X12.here hx rfl (hb hby at_42) rfl ?_
    show Steps p.tables e below (T12.setTop (mkF m 43 #[.val (.int p1), .val (.int p2), .val (.long p3), .second, .val (.long p4), .second, .val (.long p5), .second, .val (.long p6), .second, .val (.long (if (1 : Int64) < p5 then p5 else (1 : Int64))), .second, .val (.long (if (1 : Int64) < p6 then p6 else (1 : Int64))), .second, .val (.ref r7), .val (.ref r12), .unset, .unset, .unset, .unset, .unset, .unset, .unset, .unset, .unset] [(.int ((p1.toUInt32 >>> ((16 : Int32) &&& 31).toUInt32).toInt32))])) _
    refine XS.sipush X12.here hx rfl (hb hby at_43) ?_
    show Steps p.tables e below (T12.setTop (mkF m 46 #[.val (.int p1), .val (.int p2), .val (.long p3), .second, .val (.long p4), .second, .val (.long p5), .second, .val (.long p6), .second, .val (.long (if (1 : Int64) < p5 then p5 else (1 : Int64))), .second, .val (.long (if (1 : Int64) < p6 then p6 else (1 : Int64))), .second, .val (.ref r7), .val (.ref r12), .unset, .unset, .unset, .unset, .unset, .unset, .unset, .unset, .unset] [(.int (255 : Int32)), (.int ((p1.toUInt32 >>> ((16 : Int32) &&& 31).toUInt32).toInt32))])) _
    refine XS.iand X12.here hx rfl (hb hby at_46) rfl ?_
    show Steps p.tables e below (T12.setTop (mkF m 47 #[.val (.int p1), .val (.int p2), .val (.long p3), .second, .val (.long p4), .second, .val (.long p5), .second, .val (.long p6), .second, .val (.long (if (1 : Int64) < p5 then p5 else (1 : Int64))), .second, .val (.long (if (1 : Int64) < p6 then p6 else (1 : Int64))), .second, .val (.ref r7), .val (.ref r12), .unset, .unset, .unset, .unset, .unset, .unset, .unset, .unset, .unset] [(.int (((p1.toUInt32 >>> ((16 : Int32) &&& 31).toUInt32).toInt32) &&& (255 : Int32)))])) _
    exact kk
  have lt16_0 := E_I.lt
  have lt16_1 := E_r7.lt
  have lt16_2 := V_r7.lt
  have lt16_3 := E_r12.lt
  have lt16_4 := V_r12.lt
  obtain ⟨_, _, ⟨T17, L17, k17, n17⟩, -, X17, ⟨Lc17, hQ17, l17, y17, z17⟩, st17⟩ := Jvm.LawKit.callS X12 hx (y := (⟨"com/example/leasehold/leasehold/LeaseRequestHasTermsOfPinLaw", "str", "(I)Ljava/lang/String;"⟩ : MethodName)) hown (mvT hZ (hw _ (List.mem_of_getElem? (i := 4) rfl))) (mvT hZ (hw _ (List.mem_of_getElem? (i := 5) rfl))) (mvT hZ (hw _ (List.mem_of_getElem? (i := 6) rfl))) (mvT hZ (hw _ (List.mem_of_getElem? (i := 7) rfl))) (by decide) (backOf (W := 0) (rmStr l Z a0 hw [] ((((p1.toUInt32 >>> ((16 : Int32) &&& 31).toUInt32).toInt32) &&& (255 : Int32))) z0 T12.heap n0 Zs14 S_CS hz) hZ (hw _ (List.mem_of_getElem? (i := 7) rfl)) (hw _ (List.mem_of_getElem? (i := 6) rfl)) (by decide) (by decide)) (g := (mkF m 47 #[.val (.int p1), .val (.int p2), .val (.long p3), .second, .val (.long p4), .second, .val (.long p5), .second, .val (.long p6), .second, .val (.long (if (1 : Int64) < p5 then p5 else (1 : Int64))), .second, .val (.long (if (1 : Int64) < p6 then p6 else (1 : Int64))), .second, .val (.ref r7), .val (.ref r12), .unset, .unset, .unset, .unset, .unset, .unset, .unset, .unset, .unset] [(.int (((p1.toUInt32 >>> ((16 : Int32) &&& 31).toUInt32).toInt32) &&& (255 : Int32)))])) rfl (by rw [hml]; rfl) (argsL := [(.int (((p1.toUInt32 >>> ((16 : Int32) &&& 31).toUInt32).toInt32) &&& (255 : Int32)))]) (rest := []) (lenOf pd__I_Ljava_lang_String_ rfl) rfl (by show 2 * 0 + _ ≤ _; exact Nat.le_of_eq rfl) (hb hby at_47) (fun _ _ => ⟨rfl, rfl, (by decide : 6 + 3 ≤ _), (by decide : 16 + 8 ≤ _)⟩)
  dsimp only [Pt.U, Pt.locs, Pt.cells, Pt.slots] at X17 l17 y17 z17 st17 hQ17
  subst l17 y17 z17
  obtain ⟨r17, t17, kk17, rfl, N17q, K17, gr17, sr17, gt17, st_17, Qe17, Qv17, Qc17, Qa17⟩ := hQ17
  have N17 := Fr.app N12 N17q
  have CA18 : CHr Z own_EL s.vm T12.heap s.vm T17.heap := CHr.keep K17 sf0 CH13.1
  have CH18 : CHr Z own_EL s.vm h0 s.vm T17.heap := CH13.trans CA18
  have S_CS : Sta Z T17.heap "java/lang/String" "COMPACT_STRINGS" "Z" (.int z0) := own_sta_keep S_CS K17 all0
  have S_A : Sta Z T17.heap "java/lang/CharacterDataLatin1" "A" "[I" (.ref aA) := own_sta_keep S_A K17 all0
  have S_I : Sta Z T17.heap "java/lang/CharacterDataLatin1" "instance" "Ljava/lang/CharacterDataLatin1;" (.ref aI) := own_sta_keep S_I K17 all0
  have E_I : Exa Z T17.heap aI "java/lang/CharacterDataLatin1" := E_I.keep K17
  have E_r7 : Exa Z T17.heap r7 "java/lang/String" := E_r7.keep K17
  have Fv_r7 : Fld Z T17.heap r7 "java/lang/String" "value" "[B" (.ref t7) := Fv_r7.keep K17 nin0
  have Fc_r7 : Fld Z T17.heap r7 "java/lang/String" "coder" "B" (.int (0 : Int32)) := Fc_r7.keep K17 nin0
  have V_r7 : Arv Z T17.heap t7 kk7 .byte (Int32.ofNat (own_sv (p1 &&& (255 : Int32))).length) (((own_sv (p1 &&& (255 : Int32))).map (fun c => c.toInt8.toInt32)).map Value.int) (.int (0 : Int32)) := V_r7.keep K17 nin0
  have E_r12 : Exa Z T17.heap r12 "java/lang/String" := E_r12.keep K17
  have Fv_r12 : Fld Z T17.heap r12 "java/lang/String" "value" "[B" (.ref t12) := Fv_r12.keep K17 nin0
  have Fc_r12 : Fld Z T17.heap r12 "java/lang/String" "coder" "B" (.int (0 : Int32)) := Fc_r12.keep K17 nin0
  have V_r12 : Arv Z T17.heap t12 kk12 .byte (Int32.ofNat (own_sv (((p1.toUInt32 >>> ((8 : Int32) &&& 31).toUInt32).toInt32) &&& (255 : Int32))).length) (((own_sv (((p1.toUInt32 >>> ((8 : Int32) &&& 31).toUInt32).toInt32) &&& (255 : Int32))).map (fun c => c.toInt8.toInt32)).map Value.int) (.int (0 : Int32)) := V_r12.keep K17 nin0
  have Zs19 : n0 ≤ T17.heap.size := Nat.le_trans Zs14 K17.1
  have KC19 : Keep h0 T17.heap [] := KC14.trans K17 all0
  have ner17lt16_0 : aI ≠ r17 := Nat.ne_of_lt (Nat.lt_of_lt_of_le lt16_0 sr17)
  have net17lt16_0 : aI ≠ t17 := Nat.ne_of_lt (Nat.lt_of_lt_of_le lt16_0 st_17)
  have ner17lt16_1 : r7 ≠ r17 := Nat.ne_of_lt (Nat.lt_of_lt_of_le lt16_1 sr17)
  have net17lt16_1 : r7 ≠ t17 := Nat.ne_of_lt (Nat.lt_of_lt_of_le lt16_1 st_17)
  have ner17lt16_2 : t7 ≠ r17 := Nat.ne_of_lt (Nat.lt_of_lt_of_le lt16_2 sr17)
  have net17lt16_2 : t7 ≠ t17 := Nat.ne_of_lt (Nat.lt_of_lt_of_le lt16_2 st_17)
  have ner17lt16_3 : r12 ≠ r17 := Nat.ne_of_lt (Nat.lt_of_lt_of_le lt16_3 sr17)
  have net17lt16_3 : r12 ≠ t17 := Nat.ne_of_lt (Nat.lt_of_lt_of_le lt16_3 st_17)
  have ner17lt16_4 : t12 ≠ r17 := Nat.ne_of_lt (Nat.lt_of_lt_of_le lt16_4 sr17)
  have net17lt16_4 : t12 ≠ t17 := Nat.ne_of_lt (Nat.lt_of_lt_of_le lt16_4 st_17)
  have szr17 : h0.size ≤ r17 := Nat.le_trans KC14.1 sr17
  have szt17 : h0.size ≤ t17 := Nat.le_trans KC14.1 st_17
  have E_r17 : Exa Z T17.heap r17 "java/lang/String" := Qe17
  have Fv_r17 : Fld Z T17.heap r17 "java/lang/String" "value" "[B" (.ref t17) := Qv17
  have Fc_r17 : Fld Z T17.heap r17 "java/lang/String" "coder" "B" (.int (0 : Int32)) := Qc17
  have V_r17 : Arv Z T17.heap t17 kk17 .byte (Int32.ofNat (own_sv (((p1.toUInt32 >>> ((16 : Int32) &&& 31).toUInt32).toInt32) &&& (255 : Int32))).length) (((own_sv (((p1.toUInt32 >>> ((16 : Int32) &&& 31).toUInt32).toInt32) &&& (255 : Int32))).map (fun c => c.toInt8.toInt32)).map Value.int) (.int (0 : Int32)) := Qa17
  have pre20 : ∀ tgt, Steps p.tables e below (T17.setTop (mkF m 60 #[.val (.int p1), .val (.int p2), .val (.long p3), .second, .val (.long p4), .second, .val (.long p5), .second, .val (.long p6), .second, .val (.long (if (1 : Int64) < p5 then p5 else (1 : Int64))), .second, .val (.long (if (1 : Int64) < p6 then p6 else (1 : Int64))), .second, .val (.ref r7), .val (.ref r12), .val (.ref r17), .unset, .unset, .unset, .unset, .unset, .unset, .unset, .unset] [(.int (((p1.toUInt32 >>> ((24 : Int32) &&& 31).toUInt32).toInt32) &&& (255 : Int32)))])) tgt → Steps p.tables e below (s₁.setTop (entryFrame m #[(.int p1), (.int p2), (.long p3), (.long p4), (.long p5), (.long p6)] maxLocals)) tgt := by
    intro tgt kk
    refine pre15 tgt ?_
    refine st17 _ ?_
    show Steps p.tables e below (T17.setTop (mkF m 50 #[.val (.int p1), .val (.int p2), .val (.long p3), .second, .val (.long p4), .second, .val (.long p5), .second, .val (.long p6), .second, .val (.long (if (1 : Int64) < p5 then p5 else (1 : Int64))), .second, .val (.long (if (1 : Int64) < p6 then p6 else (1 : Int64))), .second, .val (.ref r7), .val (.ref r12), .unset, .unset, .unset, .unset, .unset, .unset, .unset, .unset, .unset] [(.ref r17)])) _
    refine XS.astore X17.here hx rfl (hb hby at_50) rfl rfl (l' := #[.val (.int p1), .val (.int p2), .val (.long p3), .second, .val (.long p4), .second, .val (.long p5), .second, .val (.long p6), .second, .val (.long (if (1 : Int64) < p5 then p5 else (1 : Int64))), .second, .val (.long (if (1 : Int64) < p6 then p6 else (1 : Int64))), .second, .val (.ref r7), .val (.ref r12), .val (.ref r17), .unset, .unset, .unset, .unset, .unset, .unset, .unset, .unset]) rfl ?_
    show Steps p.tables e below (T17.setTop (mkF m 52 #[.val (.int p1), .val (.int p2), .val (.long p3), .second, .val (.long p4), .second, .val (.long p5), .second, .val (.long p6), .second, .val (.long (if (1 : Int64) < p5 then p5 else (1 : Int64))), .second, .val (.long (if (1 : Int64) < p6 then p6 else (1 : Int64))), .second, .val (.ref r7), .val (.ref r12), .val (.ref r17), .unset, .unset, .unset, .unset, .unset, .unset, .unset, .unset] [])) _
    refine XS.iloadN X17.here hx rfl (hb hby at_52) rfl ?_
    show Steps p.tables e below (T17.setTop (mkF m 53 #[.val (.int p1), .val (.int p2), .val (.long p3), .second, .val (.long p4), .second, .val (.long p5), .second, .val (.long p6), .second, .val (.long (if (1 : Int64) < p5 then p5 else (1 : Int64))), .second, .val (.long (if (1 : Int64) < p6 then p6 else (1 : Int64))), .second, .val (.ref r7), .val (.ref r12), .val (.ref r17), .unset, .unset, .unset, .unset, .unset, .unset, .unset, .unset] [(.int p1)])) _
    refine XS.bipush X17.here hx rfl (hb hby at_53) ?_
    show Steps p.tables e below (T17.setTop (mkF m 55 #[.val (.int p1), .val (.int p2), .val (.long p3), .second, .val (.long p4), .second, .val (.long p5), .second, .val (.long p6), .second, .val (.long (if (1 : Int64) < p5 then p5 else (1 : Int64))), .second, .val (.long (if (1 : Int64) < p6 then p6 else (1 : Int64))), .second, .val (.ref r7), .val (.ref r12), .val (.ref r17), .unset, .unset, .unset, .unset, .unset, .unset, .unset, .unset] [(.int (24 : Int32)), (.int p1)])) _
    refine XS.iushr X17.here hx rfl (hb hby at_55) rfl ?_
    show Steps p.tables e below (T17.setTop (mkF m 56 #[.val (.int p1), .val (.int p2), .val (.long p3), .second, .val (.long p4), .second, .val (.long p5), .second, .val (.long p6), .second, .val (.long (if (1 : Int64) < p5 then p5 else (1 : Int64))), .second, .val (.long (if (1 : Int64) < p6 then p6 else (1 : Int64))), .second, .val (.ref r7), .val (.ref r12), .val (.ref r17), .unset, .unset, .unset, .unset, .unset, .unset, .unset, .unset] [(.int ((p1.toUInt32 >>> ((24 : Int32) &&& 31).toUInt32).toInt32))])) _
    refine XS.sipush X17.here hx rfl (hb hby at_56) ?_
    show Steps p.tables e below (T17.setTop (mkF m 59 #[.val (.int p1), .val (.int p2), .val (.long p3), .second, .val (.long p4), .second, .val (.long p5), .second, .val (.long p6), .second, .val (.long (if (1 : Int64) < p5 then p5 else (1 : Int64))), .second, .val (.long (if (1 : Int64) < p6 then p6 else (1 : Int64))), .second, .val (.ref r7), .val (.ref r12), .val (.ref r17), .unset, .unset, .unset, .unset, .unset, .unset, .unset, .unset] [(.int (255 : Int32)), (.int ((p1.toUInt32 >>> ((24 : Int32) &&& 31).toUInt32).toInt32))])) _
    refine XS.iand X17.here hx rfl (hb hby at_59) rfl ?_
    show Steps p.tables e below (T17.setTop (mkF m 60 #[.val (.int p1), .val (.int p2), .val (.long p3), .second, .val (.long p4), .second, .val (.long p5), .second, .val (.long p6), .second, .val (.long (if (1 : Int64) < p5 then p5 else (1 : Int64))), .second, .val (.long (if (1 : Int64) < p6 then p6 else (1 : Int64))), .second, .val (.ref r7), .val (.ref r12), .val (.ref r17), .unset, .unset, .unset, .unset, .unset, .unset, .unset, .unset] [(.int (((p1.toUInt32 >>> ((24 : Int32) &&& 31).toUInt32).toInt32) &&& (255 : Int32)))])) _
    exact kk
  have lt21_0 := E_I.lt
  have lt21_1 := E_r7.lt
  have lt21_2 := V_r7.lt
  have lt21_3 := E_r12.lt
  have lt21_4 := V_r12.lt
  have lt21_5 := E_r17.lt
  have lt21_6 := V_r17.lt
  obtain ⟨_, _, ⟨T22, L22, k22, n22⟩, -, X22, ⟨Lc22, hQ22, l22, y22, z22⟩, st22⟩ := Jvm.LawKit.callS X17 hx (y := (⟨"com/example/leasehold/leasehold/LeaseRequestHasTermsOfPinLaw", "str", "(I)Ljava/lang/String;"⟩ : MethodName)) hown (mvT hZ (hw _ (List.mem_of_getElem? (i := 4) rfl))) (mvT hZ (hw _ (List.mem_of_getElem? (i := 5) rfl))) (mvT hZ (hw _ (List.mem_of_getElem? (i := 6) rfl))) (mvT hZ (hw _ (List.mem_of_getElem? (i := 7) rfl))) (by decide) (backOf (W := 0) (rmStr l Z a0 hw [] ((((p1.toUInt32 >>> ((24 : Int32) &&& 31).toUInt32).toInt32) &&& (255 : Int32))) z0 T17.heap n0 Zs19 S_CS hz) hZ (hw _ (List.mem_of_getElem? (i := 7) rfl)) (hw _ (List.mem_of_getElem? (i := 6) rfl)) (by decide) (by decide)) (g := (mkF m 60 #[.val (.int p1), .val (.int p2), .val (.long p3), .second, .val (.long p4), .second, .val (.long p5), .second, .val (.long p6), .second, .val (.long (if (1 : Int64) < p5 then p5 else (1 : Int64))), .second, .val (.long (if (1 : Int64) < p6 then p6 else (1 : Int64))), .second, .val (.ref r7), .val (.ref r12), .val (.ref r17), .unset, .unset, .unset, .unset, .unset, .unset, .unset, .unset] [(.int (((p1.toUInt32 >>> ((24 : Int32) &&& 31).toUInt32).toInt32) &&& (255 : Int32)))])) rfl (by rw [hml]; rfl) (argsL := [(.int (((p1.toUInt32 >>> ((24 : Int32) &&& 31).toUInt32).toInt32) &&& (255 : Int32)))]) (rest := []) (lenOf pd__I_Ljava_lang_String_ rfl) rfl (by show 2 * 0 + _ ≤ _; exact Nat.le_of_eq rfl) (hb hby at_60) (fun _ _ => ⟨rfl, rfl, (by decide : 9 + 3 ≤ _), (by decide : 24 + 8 ≤ _)⟩)
  dsimp only [Pt.U, Pt.locs, Pt.cells, Pt.slots] at X22 l22 y22 z22 st22 hQ22
  subst l22 y22 z22
  obtain ⟨r22, t22, kk22, rfl, N22q, K22, gr22, sr22, gt22, st_22, Qe22, Qv22, Qc22, Qa22⟩ := hQ22
  have N22 := Fr.app N17 N22q
  have CA23 : CHr Z own_EL s.vm T17.heap s.vm T22.heap := CHr.keep K22 sf0 CH18.1
  have CH23 : CHr Z own_EL s.vm h0 s.vm T22.heap := CH18.trans CA23
  have S_CS : Sta Z T22.heap "java/lang/String" "COMPACT_STRINGS" "Z" (.int z0) := own_sta_keep S_CS K22 all0
  have S_A : Sta Z T22.heap "java/lang/CharacterDataLatin1" "A" "[I" (.ref aA) := own_sta_keep S_A K22 all0
  have S_I : Sta Z T22.heap "java/lang/CharacterDataLatin1" "instance" "Ljava/lang/CharacterDataLatin1;" (.ref aI) := own_sta_keep S_I K22 all0
  have E_I : Exa Z T22.heap aI "java/lang/CharacterDataLatin1" := E_I.keep K22
  have E_r7 : Exa Z T22.heap r7 "java/lang/String" := E_r7.keep K22
  have Fv_r7 : Fld Z T22.heap r7 "java/lang/String" "value" "[B" (.ref t7) := Fv_r7.keep K22 nin0
  have Fc_r7 : Fld Z T22.heap r7 "java/lang/String" "coder" "B" (.int (0 : Int32)) := Fc_r7.keep K22 nin0
  have V_r7 : Arv Z T22.heap t7 kk7 .byte (Int32.ofNat (own_sv (p1 &&& (255 : Int32))).length) (((own_sv (p1 &&& (255 : Int32))).map (fun c => c.toInt8.toInt32)).map Value.int) (.int (0 : Int32)) := V_r7.keep K22 nin0
  have E_r12 : Exa Z T22.heap r12 "java/lang/String" := E_r12.keep K22
  have Fv_r12 : Fld Z T22.heap r12 "java/lang/String" "value" "[B" (.ref t12) := Fv_r12.keep K22 nin0
  have Fc_r12 : Fld Z T22.heap r12 "java/lang/String" "coder" "B" (.int (0 : Int32)) := Fc_r12.keep K22 nin0
  have V_r12 : Arv Z T22.heap t12 kk12 .byte (Int32.ofNat (own_sv (((p1.toUInt32 >>> ((8 : Int32) &&& 31).toUInt32).toInt32) &&& (255 : Int32))).length) (((own_sv (((p1.toUInt32 >>> ((8 : Int32) &&& 31).toUInt32).toInt32) &&& (255 : Int32))).map (fun c => c.toInt8.toInt32)).map Value.int) (.int (0 : Int32)) := V_r12.keep K22 nin0
  have E_r17 : Exa Z T22.heap r17 "java/lang/String" := E_r17.keep K22
  have Fv_r17 : Fld Z T22.heap r17 "java/lang/String" "value" "[B" (.ref t17) := Fv_r17.keep K22 nin0
  have Fc_r17 : Fld Z T22.heap r17 "java/lang/String" "coder" "B" (.int (0 : Int32)) := Fc_r17.keep K22 nin0
  have V_r17 : Arv Z T22.heap t17 kk17 .byte (Int32.ofNat (own_sv (((p1.toUInt32 >>> ((16 : Int32) &&& 31).toUInt32).toInt32) &&& (255 : Int32))).length) (((own_sv (((p1.toUInt32 >>> ((16 : Int32) &&& 31).toUInt32).toInt32) &&& (255 : Int32))).map (fun c => c.toInt8.toInt32)).map Value.int) (.int (0 : Int32)) := V_r17.keep K22 nin0
  have Zs24 : n0 ≤ T22.heap.size := Nat.le_trans Zs19 K22.1
  have KC24 : Keep h0 T22.heap [] := KC19.trans K22 all0
  have ner22lt21_0 : aI ≠ r22 := Nat.ne_of_lt (Nat.lt_of_lt_of_le lt21_0 sr22)
  have net22lt21_0 : aI ≠ t22 := Nat.ne_of_lt (Nat.lt_of_lt_of_le lt21_0 st_22)
  have ner22lt21_1 : r7 ≠ r22 := Nat.ne_of_lt (Nat.lt_of_lt_of_le lt21_1 sr22)
  have net22lt21_1 : r7 ≠ t22 := Nat.ne_of_lt (Nat.lt_of_lt_of_le lt21_1 st_22)
  have ner22lt21_2 : t7 ≠ r22 := Nat.ne_of_lt (Nat.lt_of_lt_of_le lt21_2 sr22)
  have net22lt21_2 : t7 ≠ t22 := Nat.ne_of_lt (Nat.lt_of_lt_of_le lt21_2 st_22)
  have ner22lt21_3 : r12 ≠ r22 := Nat.ne_of_lt (Nat.lt_of_lt_of_le lt21_3 sr22)
  have net22lt21_3 : r12 ≠ t22 := Nat.ne_of_lt (Nat.lt_of_lt_of_le lt21_3 st_22)
  have ner22lt21_4 : t12 ≠ r22 := Nat.ne_of_lt (Nat.lt_of_lt_of_le lt21_4 sr22)
  have net22lt21_4 : t12 ≠ t22 := Nat.ne_of_lt (Nat.lt_of_lt_of_le lt21_4 st_22)
  have ner22lt21_5 : r17 ≠ r22 := Nat.ne_of_lt (Nat.lt_of_lt_of_le lt21_5 sr22)
  have net22lt21_5 : r17 ≠ t22 := Nat.ne_of_lt (Nat.lt_of_lt_of_le lt21_5 st_22)
  have ner22lt21_6 : t17 ≠ r22 := Nat.ne_of_lt (Nat.lt_of_lt_of_le lt21_6 sr22)
  have net22lt21_6 : t17 ≠ t22 := Nat.ne_of_lt (Nat.lt_of_lt_of_le lt21_6 st_22)
  have szr22 : h0.size ≤ r22 := Nat.le_trans KC19.1 sr22
  have szt22 : h0.size ≤ t22 := Nat.le_trans KC19.1 st_22
  have E_r22 : Exa Z T22.heap r22 "java/lang/String" := Qe22
  have Fv_r22 : Fld Z T22.heap r22 "java/lang/String" "value" "[B" (.ref t22) := Qv22
  have Fc_r22 : Fld Z T22.heap r22 "java/lang/String" "coder" "B" (.int (0 : Int32)) := Qc22
  have V_r22 : Arv Z T22.heap t22 kk22 .byte (Int32.ofNat (own_sv (((p1.toUInt32 >>> ((24 : Int32) &&& 31).toUInt32).toInt32) &&& (255 : Int32))).length) (((own_sv (((p1.toUInt32 >>> ((24 : Int32) &&& 31).toUInt32).toInt32) &&& (255 : Int32))).map (fun c => c.toInt8.toInt32)).map Value.int) (.int (0 : Int32)) := Qa22
  have pre25 : ∀ tgt, Steps p.tables e below (T22.setTop (mkF m 70 #[.val (.int p1), .val (.int p2), .val (.long p3), .second, .val (.long p4), .second, .val (.long p5), .second, .val (.long p6), .second, .val (.long (if (1 : Int64) < p5 then p5 else (1 : Int64))), .second, .val (.long (if (1 : Int64) < p6 then p6 else (1 : Int64))), .second, .val (.ref r7), .val (.ref r12), .val (.ref r17), .val (.ref r22), .unset, .unset, .unset, .unset, .unset, .unset, .unset] [(.int (p2 &&& (255 : Int32)))])) tgt → Steps p.tables e below (s₁.setTop (entryFrame m #[(.int p1), (.int p2), (.long p3), (.long p4), (.long p5), (.long p6)] maxLocals)) tgt := by
    intro tgt kk
    refine pre20 tgt ?_
    refine st22 _ ?_
    show Steps p.tables e below (T22.setTop (mkF m 63 #[.val (.int p1), .val (.int p2), .val (.long p3), .second, .val (.long p4), .second, .val (.long p5), .second, .val (.long p6), .second, .val (.long (if (1 : Int64) < p5 then p5 else (1 : Int64))), .second, .val (.long (if (1 : Int64) < p6 then p6 else (1 : Int64))), .second, .val (.ref r7), .val (.ref r12), .val (.ref r17), .unset, .unset, .unset, .unset, .unset, .unset, .unset, .unset] [(.ref r22)])) _
    refine XS.astore X22.here hx rfl (hb hby at_63) rfl rfl (l' := #[.val (.int p1), .val (.int p2), .val (.long p3), .second, .val (.long p4), .second, .val (.long p5), .second, .val (.long p6), .second, .val (.long (if (1 : Int64) < p5 then p5 else (1 : Int64))), .second, .val (.long (if (1 : Int64) < p6 then p6 else (1 : Int64))), .second, .val (.ref r7), .val (.ref r12), .val (.ref r17), .val (.ref r22), .unset, .unset, .unset, .unset, .unset, .unset, .unset]) rfl ?_
    show Steps p.tables e below (T22.setTop (mkF m 65 #[.val (.int p1), .val (.int p2), .val (.long p3), .second, .val (.long p4), .second, .val (.long p5), .second, .val (.long p6), .second, .val (.long (if (1 : Int64) < p5 then p5 else (1 : Int64))), .second, .val (.long (if (1 : Int64) < p6 then p6 else (1 : Int64))), .second, .val (.ref r7), .val (.ref r12), .val (.ref r17), .val (.ref r22), .unset, .unset, .unset, .unset, .unset, .unset, .unset] [])) _
    refine XS.iloadN X22.here hx rfl (hb hby at_65) rfl ?_
    show Steps p.tables e below (T22.setTop (mkF m 66 #[.val (.int p1), .val (.int p2), .val (.long p3), .second, .val (.long p4), .second, .val (.long p5), .second, .val (.long p6), .second, .val (.long (if (1 : Int64) < p5 then p5 else (1 : Int64))), .second, .val (.long (if (1 : Int64) < p6 then p6 else (1 : Int64))), .second, .val (.ref r7), .val (.ref r12), .val (.ref r17), .val (.ref r22), .unset, .unset, .unset, .unset, .unset, .unset, .unset] [(.int p2)])) _
    refine XS.sipush X22.here hx rfl (hb hby at_66) ?_
    show Steps p.tables e below (T22.setTop (mkF m 69 #[.val (.int p1), .val (.int p2), .val (.long p3), .second, .val (.long p4), .second, .val (.long p5), .second, .val (.long p6), .second, .val (.long (if (1 : Int64) < p5 then p5 else (1 : Int64))), .second, .val (.long (if (1 : Int64) < p6 then p6 else (1 : Int64))), .second, .val (.ref r7), .val (.ref r12), .val (.ref r17), .val (.ref r22), .unset, .unset, .unset, .unset, .unset, .unset, .unset] [(.int (255 : Int32)), (.int p2)])) _
    refine XS.iand X22.here hx rfl (hb hby at_69) rfl ?_
    show Steps p.tables e below (T22.setTop (mkF m 70 #[.val (.int p1), .val (.int p2), .val (.long p3), .second, .val (.long p4), .second, .val (.long p5), .second, .val (.long p6), .second, .val (.long (if (1 : Int64) < p5 then p5 else (1 : Int64))), .second, .val (.long (if (1 : Int64) < p6 then p6 else (1 : Int64))), .second, .val (.ref r7), .val (.ref r12), .val (.ref r17), .val (.ref r22), .unset, .unset, .unset, .unset, .unset, .unset, .unset] [(.int (p2 &&& (255 : Int32)))])) _
    exact kk
  have lt26_0 := E_I.lt
  have lt26_1 := E_r7.lt
  have lt26_2 := V_r7.lt
  have lt26_3 := E_r12.lt
  have lt26_4 := V_r12.lt
  have lt26_5 := E_r17.lt
  have lt26_6 := V_r17.lt
  have lt26_7 := E_r22.lt
  have lt26_8 := V_r22.lt
  obtain ⟨_, _, ⟨T27, L27, k27, n27⟩, -, X27, ⟨Lc27, hQ27, l27, y27, z27⟩, st27⟩ := Jvm.LawKit.callS X22 hx (y := (⟨"com/example/leasehold/leasehold/LeaseRequestHasTermsOfPinLaw", "str", "(I)Ljava/lang/String;"⟩ : MethodName)) hown (mvT hZ (hw _ (List.mem_of_getElem? (i := 4) rfl))) (mvT hZ (hw _ (List.mem_of_getElem? (i := 5) rfl))) (mvT hZ (hw _ (List.mem_of_getElem? (i := 6) rfl))) (mvT hZ (hw _ (List.mem_of_getElem? (i := 7) rfl))) (by decide) (backOf (W := 0) (rmStr l Z a0 hw [] ((p2 &&& (255 : Int32))) z0 T22.heap n0 Zs24 S_CS hz) hZ (hw _ (List.mem_of_getElem? (i := 7) rfl)) (hw _ (List.mem_of_getElem? (i := 6) rfl)) (by decide) (by decide)) (g := (mkF m 70 #[.val (.int p1), .val (.int p2), .val (.long p3), .second, .val (.long p4), .second, .val (.long p5), .second, .val (.long p6), .second, .val (.long (if (1 : Int64) < p5 then p5 else (1 : Int64))), .second, .val (.long (if (1 : Int64) < p6 then p6 else (1 : Int64))), .second, .val (.ref r7), .val (.ref r12), .val (.ref r17), .val (.ref r22), .unset, .unset, .unset, .unset, .unset, .unset, .unset] [(.int (p2 &&& (255 : Int32)))])) rfl (by rw [hml]; rfl) (argsL := [(.int (p2 &&& (255 : Int32)))]) (rest := []) (lenOf pd__I_Ljava_lang_String_ rfl) rfl (by show 2 * 0 + _ ≤ _; exact Nat.le_of_eq rfl) (hb hby at_70) (fun _ _ => ⟨rfl, rfl, (by decide : 12 + 3 ≤ _), (by decide : 32 + 8 ≤ _)⟩)
  dsimp only [Pt.U, Pt.locs, Pt.cells, Pt.slots] at X27 l27 y27 z27 st27 hQ27
  subst l27 y27 z27
  obtain ⟨r27, t27, kk27, rfl, N27q, K27, gr27, sr27, gt27, st_27, Qe27, Qv27, Qc27, Qa27⟩ := hQ27
  have N27 := Fr.app N22 N27q
  have CA28 : CHr Z own_EL s.vm T22.heap s.vm T27.heap := CHr.keep K27 sf0 CH23.1
  have CH28 : CHr Z own_EL s.vm h0 s.vm T27.heap := CH23.trans CA28
  have S_CS : Sta Z T27.heap "java/lang/String" "COMPACT_STRINGS" "Z" (.int z0) := own_sta_keep S_CS K27 all0
  have S_A : Sta Z T27.heap "java/lang/CharacterDataLatin1" "A" "[I" (.ref aA) := own_sta_keep S_A K27 all0
  have S_I : Sta Z T27.heap "java/lang/CharacterDataLatin1" "instance" "Ljava/lang/CharacterDataLatin1;" (.ref aI) := own_sta_keep S_I K27 all0
  have E_I : Exa Z T27.heap aI "java/lang/CharacterDataLatin1" := E_I.keep K27
  have E_r7 : Exa Z T27.heap r7 "java/lang/String" := E_r7.keep K27
  have Fv_r7 : Fld Z T27.heap r7 "java/lang/String" "value" "[B" (.ref t7) := Fv_r7.keep K27 nin0
  have Fc_r7 : Fld Z T27.heap r7 "java/lang/String" "coder" "B" (.int (0 : Int32)) := Fc_r7.keep K27 nin0
  have V_r7 : Arv Z T27.heap t7 kk7 .byte (Int32.ofNat (own_sv (p1 &&& (255 : Int32))).length) (((own_sv (p1 &&& (255 : Int32))).map (fun c => c.toInt8.toInt32)).map Value.int) (.int (0 : Int32)) := V_r7.keep K27 nin0
  have E_r12 : Exa Z T27.heap r12 "java/lang/String" := E_r12.keep K27
  have Fv_r12 : Fld Z T27.heap r12 "java/lang/String" "value" "[B" (.ref t12) := Fv_r12.keep K27 nin0
  have Fc_r12 : Fld Z T27.heap r12 "java/lang/String" "coder" "B" (.int (0 : Int32)) := Fc_r12.keep K27 nin0
  have V_r12 : Arv Z T27.heap t12 kk12 .byte (Int32.ofNat (own_sv (((p1.toUInt32 >>> ((8 : Int32) &&& 31).toUInt32).toInt32) &&& (255 : Int32))).length) (((own_sv (((p1.toUInt32 >>> ((8 : Int32) &&& 31).toUInt32).toInt32) &&& (255 : Int32))).map (fun c => c.toInt8.toInt32)).map Value.int) (.int (0 : Int32)) := V_r12.keep K27 nin0
  have E_r17 : Exa Z T27.heap r17 "java/lang/String" := E_r17.keep K27
  have Fv_r17 : Fld Z T27.heap r17 "java/lang/String" "value" "[B" (.ref t17) := Fv_r17.keep K27 nin0
  have Fc_r17 : Fld Z T27.heap r17 "java/lang/String" "coder" "B" (.int (0 : Int32)) := Fc_r17.keep K27 nin0
  have V_r17 : Arv Z T27.heap t17 kk17 .byte (Int32.ofNat (own_sv (((p1.toUInt32 >>> ((16 : Int32) &&& 31).toUInt32).toInt32) &&& (255 : Int32))).length) (((own_sv (((p1.toUInt32 >>> ((16 : Int32) &&& 31).toUInt32).toInt32) &&& (255 : Int32))).map (fun c => c.toInt8.toInt32)).map Value.int) (.int (0 : Int32)) := V_r17.keep K27 nin0
  have E_r22 : Exa Z T27.heap r22 "java/lang/String" := E_r22.keep K27
  have Fv_r22 : Fld Z T27.heap r22 "java/lang/String" "value" "[B" (.ref t22) := Fv_r22.keep K27 nin0
  have Fc_r22 : Fld Z T27.heap r22 "java/lang/String" "coder" "B" (.int (0 : Int32)) := Fc_r22.keep K27 nin0
  have V_r22 : Arv Z T27.heap t22 kk22 .byte (Int32.ofNat (own_sv (((p1.toUInt32 >>> ((24 : Int32) &&& 31).toUInt32).toInt32) &&& (255 : Int32))).length) (((own_sv (((p1.toUInt32 >>> ((24 : Int32) &&& 31).toUInt32).toInt32) &&& (255 : Int32))).map (fun c => c.toInt8.toInt32)).map Value.int) (.int (0 : Int32)) := V_r22.keep K27 nin0
  have Zs29 : n0 ≤ T27.heap.size := Nat.le_trans Zs24 K27.1
  have KC29 : Keep h0 T27.heap [] := KC24.trans K27 all0
  have ner27lt26_0 : aI ≠ r27 := Nat.ne_of_lt (Nat.lt_of_lt_of_le lt26_0 sr27)
  have net27lt26_0 : aI ≠ t27 := Nat.ne_of_lt (Nat.lt_of_lt_of_le lt26_0 st_27)
  have ner27lt26_1 : r7 ≠ r27 := Nat.ne_of_lt (Nat.lt_of_lt_of_le lt26_1 sr27)
  have net27lt26_1 : r7 ≠ t27 := Nat.ne_of_lt (Nat.lt_of_lt_of_le lt26_1 st_27)
  have ner27lt26_2 : t7 ≠ r27 := Nat.ne_of_lt (Nat.lt_of_lt_of_le lt26_2 sr27)
  have net27lt26_2 : t7 ≠ t27 := Nat.ne_of_lt (Nat.lt_of_lt_of_le lt26_2 st_27)
  have ner27lt26_3 : r12 ≠ r27 := Nat.ne_of_lt (Nat.lt_of_lt_of_le lt26_3 sr27)
  have net27lt26_3 : r12 ≠ t27 := Nat.ne_of_lt (Nat.lt_of_lt_of_le lt26_3 st_27)
  have ner27lt26_4 : t12 ≠ r27 := Nat.ne_of_lt (Nat.lt_of_lt_of_le lt26_4 sr27)
  have net27lt26_4 : t12 ≠ t27 := Nat.ne_of_lt (Nat.lt_of_lt_of_le lt26_4 st_27)
  have ner27lt26_5 : r17 ≠ r27 := Nat.ne_of_lt (Nat.lt_of_lt_of_le lt26_5 sr27)
  have net27lt26_5 : r17 ≠ t27 := Nat.ne_of_lt (Nat.lt_of_lt_of_le lt26_5 st_27)
  have ner27lt26_6 : t17 ≠ r27 := Nat.ne_of_lt (Nat.lt_of_lt_of_le lt26_6 sr27)
  have net27lt26_6 : t17 ≠ t27 := Nat.ne_of_lt (Nat.lt_of_lt_of_le lt26_6 st_27)
  have ner27lt26_7 : r22 ≠ r27 := Nat.ne_of_lt (Nat.lt_of_lt_of_le lt26_7 sr27)
  have net27lt26_7 : r22 ≠ t27 := Nat.ne_of_lt (Nat.lt_of_lt_of_le lt26_7 st_27)
  have ner27lt26_8 : t22 ≠ r27 := Nat.ne_of_lt (Nat.lt_of_lt_of_le lt26_8 sr27)
  have net27lt26_8 : t22 ≠ t27 := Nat.ne_of_lt (Nat.lt_of_lt_of_le lt26_8 st_27)
  have szr27 : h0.size ≤ r27 := Nat.le_trans KC24.1 sr27
  have szt27 : h0.size ≤ t27 := Nat.le_trans KC24.1 st_27
  have E_r27 : Exa Z T27.heap r27 "java/lang/String" := Qe27
  have Fv_r27 : Fld Z T27.heap r27 "java/lang/String" "value" "[B" (.ref t27) := Qv27
  have Fc_r27 : Fld Z T27.heap r27 "java/lang/String" "coder" "B" (.int (0 : Int32)) := Qc27
  have V_r27 : Arv Z T27.heap t27 kk27 .byte (Int32.ofNat (own_sv (p2 &&& (255 : Int32))).length) (((own_sv (p2 &&& (255 : Int32))).map (fun c => c.toInt8.toInt32)).map Value.int) (.int (0 : Int32)) := Qa27
  have pre30 : ∀ tgt, Steps p.tables e below (T27.setTop (mkF m 83 #[.val (.int p1), .val (.int p2), .val (.long p3), .second, .val (.long p4), .second, .val (.long p5), .second, .val (.long p6), .second, .val (.long (if (1 : Int64) < p5 then p5 else (1 : Int64))), .second, .val (.long (if (1 : Int64) < p6 then p6 else (1 : Int64))), .second, .val (.ref r7), .val (.ref r12), .val (.ref r17), .val (.ref r22), .val (.ref r27), .unset, .unset, .unset, .unset, .unset, .unset] [(.int (((p2.toUInt32 >>> ((8 : Int32) &&& 31).toUInt32).toInt32) &&& (255 : Int32)))])) tgt → Steps p.tables e below (s₁.setTop (entryFrame m #[(.int p1), (.int p2), (.long p3), (.long p4), (.long p5), (.long p6)] maxLocals)) tgt := by
    intro tgt kk
    refine pre25 tgt ?_
    refine st27 _ ?_
    show Steps p.tables e below (T27.setTop (mkF m 73 #[.val (.int p1), .val (.int p2), .val (.long p3), .second, .val (.long p4), .second, .val (.long p5), .second, .val (.long p6), .second, .val (.long (if (1 : Int64) < p5 then p5 else (1 : Int64))), .second, .val (.long (if (1 : Int64) < p6 then p6 else (1 : Int64))), .second, .val (.ref r7), .val (.ref r12), .val (.ref r17), .val (.ref r22), .unset, .unset, .unset, .unset, .unset, .unset, .unset] [(.ref r27)])) _
    refine XS.astore X27.here hx rfl (hb hby at_73) rfl rfl (l' := #[.val (.int p1), .val (.int p2), .val (.long p3), .second, .val (.long p4), .second, .val (.long p5), .second, .val (.long p6), .second, .val (.long (if (1 : Int64) < p5 then p5 else (1 : Int64))), .second, .val (.long (if (1 : Int64) < p6 then p6 else (1 : Int64))), .second, .val (.ref r7), .val (.ref r12), .val (.ref r17), .val (.ref r22), .val (.ref r27), .unset, .unset, .unset, .unset, .unset, .unset]) rfl ?_
    show Steps p.tables e below (T27.setTop (mkF m 75 #[.val (.int p1), .val (.int p2), .val (.long p3), .second, .val (.long p4), .second, .val (.long p5), .second, .val (.long p6), .second, .val (.long (if (1 : Int64) < p5 then p5 else (1 : Int64))), .second, .val (.long (if (1 : Int64) < p6 then p6 else (1 : Int64))), .second, .val (.ref r7), .val (.ref r12), .val (.ref r17), .val (.ref r22), .val (.ref r27), .unset, .unset, .unset, .unset, .unset, .unset] [])) _
    refine XS.iloadN X27.here hx rfl (hb hby at_75) rfl ?_
    show Steps p.tables e below (T27.setTop (mkF m 76 #[.val (.int p1), .val (.int p2), .val (.long p3), .second, .val (.long p4), .second, .val (.long p5), .second, .val (.long p6), .second, .val (.long (if (1 : Int64) < p5 then p5 else (1 : Int64))), .second, .val (.long (if (1 : Int64) < p6 then p6 else (1 : Int64))), .second, .val (.ref r7), .val (.ref r12), .val (.ref r17), .val (.ref r22), .val (.ref r27), .unset, .unset, .unset, .unset, .unset, .unset] [(.int p2)])) _
    refine XS.bipush X27.here hx rfl (hb hby at_76) ?_
    show Steps p.tables e below (T27.setTop (mkF m 78 #[.val (.int p1), .val (.int p2), .val (.long p3), .second, .val (.long p4), .second, .val (.long p5), .second, .val (.long p6), .second, .val (.long (if (1 : Int64) < p5 then p5 else (1 : Int64))), .second, .val (.long (if (1 : Int64) < p6 then p6 else (1 : Int64))), .second, .val (.ref r7), .val (.ref r12), .val (.ref r17), .val (.ref r22), .val (.ref r27), .unset, .unset, .unset, .unset, .unset, .unset] [(.int (8 : Int32)), (.int p2)])) _
    refine XS.iushr X27.here hx rfl (hb hby at_78) rfl ?_
    show Steps p.tables e below (T27.setTop (mkF m 79 #[.val (.int p1), .val (.int p2), .val (.long p3), .second, .val (.long p4), .second, .val (.long p5), .second, .val (.long p6), .second, .val (.long (if (1 : Int64) < p5 then p5 else (1 : Int64))), .second, .val (.long (if (1 : Int64) < p6 then p6 else (1 : Int64))), .second, .val (.ref r7), .val (.ref r12), .val (.ref r17), .val (.ref r22), .val (.ref r27), .unset, .unset, .unset, .unset, .unset, .unset] [(.int ((p2.toUInt32 >>> ((8 : Int32) &&& 31).toUInt32).toInt32))])) _
    refine XS.sipush X27.here hx rfl (hb hby at_79) ?_
    show Steps p.tables e below (T27.setTop (mkF m 82 #[.val (.int p1), .val (.int p2), .val (.long p3), .second, .val (.long p4), .second, .val (.long p5), .second, .val (.long p6), .second, .val (.long (if (1 : Int64) < p5 then p5 else (1 : Int64))), .second, .val (.long (if (1 : Int64) < p6 then p6 else (1 : Int64))), .second, .val (.ref r7), .val (.ref r12), .val (.ref r17), .val (.ref r22), .val (.ref r27), .unset, .unset, .unset, .unset, .unset, .unset] [(.int (255 : Int32)), (.int ((p2.toUInt32 >>> ((8 : Int32) &&& 31).toUInt32).toInt32))])) _
    refine XS.iand X27.here hx rfl (hb hby at_82) rfl ?_
    show Steps p.tables e below (T27.setTop (mkF m 83 #[.val (.int p1), .val (.int p2), .val (.long p3), .second, .val (.long p4), .second, .val (.long p5), .second, .val (.long p6), .second, .val (.long (if (1 : Int64) < p5 then p5 else (1 : Int64))), .second, .val (.long (if (1 : Int64) < p6 then p6 else (1 : Int64))), .second, .val (.ref r7), .val (.ref r12), .val (.ref r17), .val (.ref r22), .val (.ref r27), .unset, .unset, .unset, .unset, .unset, .unset] [(.int (((p2.toUInt32 >>> ((8 : Int32) &&& 31).toUInt32).toInt32) &&& (255 : Int32)))])) _
    exact kk
  have lt31_0 := E_I.lt
  have lt31_1 := E_r7.lt
  have lt31_2 := V_r7.lt
  have lt31_3 := E_r12.lt
  have lt31_4 := V_r12.lt
  have lt31_5 := E_r17.lt
  have lt31_6 := V_r17.lt
  have lt31_7 := E_r22.lt
  have lt31_8 := V_r22.lt
  have lt31_9 := E_r27.lt
  have lt31_10 := V_r27.lt
  obtain ⟨_, _, ⟨T32, L32, k32, n32⟩, -, X32, ⟨Lc32, hQ32, l32, y32, z32⟩, st32⟩ := Jvm.LawKit.callS X27 hx (y := (⟨"com/example/leasehold/leasehold/LeaseRequestHasTermsOfPinLaw", "str", "(I)Ljava/lang/String;"⟩ : MethodName)) hown (mvT hZ (hw _ (List.mem_of_getElem? (i := 4) rfl))) (mvT hZ (hw _ (List.mem_of_getElem? (i := 5) rfl))) (mvT hZ (hw _ (List.mem_of_getElem? (i := 6) rfl))) (mvT hZ (hw _ (List.mem_of_getElem? (i := 7) rfl))) (by decide) (backOf (W := 0) (rmStr l Z a0 hw [] ((((p2.toUInt32 >>> ((8 : Int32) &&& 31).toUInt32).toInt32) &&& (255 : Int32))) z0 T27.heap n0 Zs29 S_CS hz) hZ (hw _ (List.mem_of_getElem? (i := 7) rfl)) (hw _ (List.mem_of_getElem? (i := 6) rfl)) (by decide) (by decide)) (g := (mkF m 83 #[.val (.int p1), .val (.int p2), .val (.long p3), .second, .val (.long p4), .second, .val (.long p5), .second, .val (.long p6), .second, .val (.long (if (1 : Int64) < p5 then p5 else (1 : Int64))), .second, .val (.long (if (1 : Int64) < p6 then p6 else (1 : Int64))), .second, .val (.ref r7), .val (.ref r12), .val (.ref r17), .val (.ref r22), .val (.ref r27), .unset, .unset, .unset, .unset, .unset, .unset] [(.int (((p2.toUInt32 >>> ((8 : Int32) &&& 31).toUInt32).toInt32) &&& (255 : Int32)))])) rfl (by rw [hml]; rfl) (argsL := [(.int (((p2.toUInt32 >>> ((8 : Int32) &&& 31).toUInt32).toInt32) &&& (255 : Int32)))]) (rest := []) (lenOf pd__I_Ljava_lang_String_ rfl) rfl (by show 2 * 0 + _ ≤ _; exact Nat.le_of_eq rfl) (hb hby at_83) (fun _ _ => ⟨rfl, rfl, (by decide : 15 + 3 ≤ _), (by decide : 40 + 8 ≤ _)⟩)
  dsimp only [Pt.U, Pt.locs, Pt.cells, Pt.slots] at X32 l32 y32 z32 st32 hQ32
  subst l32 y32 z32
  obtain ⟨r32, t32, kk32, rfl, N32q, K32, gr32, sr32, gt32, st_32, Qe32, Qv32, Qc32, Qa32⟩ := hQ32
  have N32 := Fr.app N27 N32q
  have CA33 : CHr Z own_EL s.vm T27.heap s.vm T32.heap := CHr.keep K32 sf0 CH28.1
  have CH33 : CHr Z own_EL s.vm h0 s.vm T32.heap := CH28.trans CA33
  have S_CS : Sta Z T32.heap "java/lang/String" "COMPACT_STRINGS" "Z" (.int z0) := own_sta_keep S_CS K32 all0
  have S_A : Sta Z T32.heap "java/lang/CharacterDataLatin1" "A" "[I" (.ref aA) := own_sta_keep S_A K32 all0
  have S_I : Sta Z T32.heap "java/lang/CharacterDataLatin1" "instance" "Ljava/lang/CharacterDataLatin1;" (.ref aI) := own_sta_keep S_I K32 all0
  have E_I : Exa Z T32.heap aI "java/lang/CharacterDataLatin1" := E_I.keep K32
  have E_r7 : Exa Z T32.heap r7 "java/lang/String" := E_r7.keep K32
  have Fv_r7 : Fld Z T32.heap r7 "java/lang/String" "value" "[B" (.ref t7) := Fv_r7.keep K32 nin0
  have Fc_r7 : Fld Z T32.heap r7 "java/lang/String" "coder" "B" (.int (0 : Int32)) := Fc_r7.keep K32 nin0
  have V_r7 : Arv Z T32.heap t7 kk7 .byte (Int32.ofNat (own_sv (p1 &&& (255 : Int32))).length) (((own_sv (p1 &&& (255 : Int32))).map (fun c => c.toInt8.toInt32)).map Value.int) (.int (0 : Int32)) := V_r7.keep K32 nin0
  have E_r12 : Exa Z T32.heap r12 "java/lang/String" := E_r12.keep K32
  have Fv_r12 : Fld Z T32.heap r12 "java/lang/String" "value" "[B" (.ref t12) := Fv_r12.keep K32 nin0
  have Fc_r12 : Fld Z T32.heap r12 "java/lang/String" "coder" "B" (.int (0 : Int32)) := Fc_r12.keep K32 nin0
  have V_r12 : Arv Z T32.heap t12 kk12 .byte (Int32.ofNat (own_sv (((p1.toUInt32 >>> ((8 : Int32) &&& 31).toUInt32).toInt32) &&& (255 : Int32))).length) (((own_sv (((p1.toUInt32 >>> ((8 : Int32) &&& 31).toUInt32).toInt32) &&& (255 : Int32))).map (fun c => c.toInt8.toInt32)).map Value.int) (.int (0 : Int32)) := V_r12.keep K32 nin0
  have E_r17 : Exa Z T32.heap r17 "java/lang/String" := E_r17.keep K32
  have Fv_r17 : Fld Z T32.heap r17 "java/lang/String" "value" "[B" (.ref t17) := Fv_r17.keep K32 nin0
  have Fc_r17 : Fld Z T32.heap r17 "java/lang/String" "coder" "B" (.int (0 : Int32)) := Fc_r17.keep K32 nin0
  have V_r17 : Arv Z T32.heap t17 kk17 .byte (Int32.ofNat (own_sv (((p1.toUInt32 >>> ((16 : Int32) &&& 31).toUInt32).toInt32) &&& (255 : Int32))).length) (((own_sv (((p1.toUInt32 >>> ((16 : Int32) &&& 31).toUInt32).toInt32) &&& (255 : Int32))).map (fun c => c.toInt8.toInt32)).map Value.int) (.int (0 : Int32)) := V_r17.keep K32 nin0
  have E_r22 : Exa Z T32.heap r22 "java/lang/String" := E_r22.keep K32
  have Fv_r22 : Fld Z T32.heap r22 "java/lang/String" "value" "[B" (.ref t22) := Fv_r22.keep K32 nin0
  have Fc_r22 : Fld Z T32.heap r22 "java/lang/String" "coder" "B" (.int (0 : Int32)) := Fc_r22.keep K32 nin0
  have V_r22 : Arv Z T32.heap t22 kk22 .byte (Int32.ofNat (own_sv (((p1.toUInt32 >>> ((24 : Int32) &&& 31).toUInt32).toInt32) &&& (255 : Int32))).length) (((own_sv (((p1.toUInt32 >>> ((24 : Int32) &&& 31).toUInt32).toInt32) &&& (255 : Int32))).map (fun c => c.toInt8.toInt32)).map Value.int) (.int (0 : Int32)) := V_r22.keep K32 nin0
  have E_r27 : Exa Z T32.heap r27 "java/lang/String" := E_r27.keep K32
  have Fv_r27 : Fld Z T32.heap r27 "java/lang/String" "value" "[B" (.ref t27) := Fv_r27.keep K32 nin0
  have Fc_r27 : Fld Z T32.heap r27 "java/lang/String" "coder" "B" (.int (0 : Int32)) := Fc_r27.keep K32 nin0
  have V_r27 : Arv Z T32.heap t27 kk27 .byte (Int32.ofNat (own_sv (p2 &&& (255 : Int32))).length) (((own_sv (p2 &&& (255 : Int32))).map (fun c => c.toInt8.toInt32)).map Value.int) (.int (0 : Int32)) := V_r27.keep K32 nin0
  have Zs34 : n0 ≤ T32.heap.size := Nat.le_trans Zs29 K32.1
  have KC34 : Keep h0 T32.heap [] := KC29.trans K32 all0
  have ner32lt31_0 : aI ≠ r32 := Nat.ne_of_lt (Nat.lt_of_lt_of_le lt31_0 sr32)
  have net32lt31_0 : aI ≠ t32 := Nat.ne_of_lt (Nat.lt_of_lt_of_le lt31_0 st_32)
  have ner32lt31_1 : r7 ≠ r32 := Nat.ne_of_lt (Nat.lt_of_lt_of_le lt31_1 sr32)
  have net32lt31_1 : r7 ≠ t32 := Nat.ne_of_lt (Nat.lt_of_lt_of_le lt31_1 st_32)
  have ner32lt31_2 : t7 ≠ r32 := Nat.ne_of_lt (Nat.lt_of_lt_of_le lt31_2 sr32)
  have net32lt31_2 : t7 ≠ t32 := Nat.ne_of_lt (Nat.lt_of_lt_of_le lt31_2 st_32)
  have ner32lt31_3 : r12 ≠ r32 := Nat.ne_of_lt (Nat.lt_of_lt_of_le lt31_3 sr32)
  have net32lt31_3 : r12 ≠ t32 := Nat.ne_of_lt (Nat.lt_of_lt_of_le lt31_3 st_32)
  have ner32lt31_4 : t12 ≠ r32 := Nat.ne_of_lt (Nat.lt_of_lt_of_le lt31_4 sr32)
  have net32lt31_4 : t12 ≠ t32 := Nat.ne_of_lt (Nat.lt_of_lt_of_le lt31_4 st_32)
  have ner32lt31_5 : r17 ≠ r32 := Nat.ne_of_lt (Nat.lt_of_lt_of_le lt31_5 sr32)
  have net32lt31_5 : r17 ≠ t32 := Nat.ne_of_lt (Nat.lt_of_lt_of_le lt31_5 st_32)
  have ner32lt31_6 : t17 ≠ r32 := Nat.ne_of_lt (Nat.lt_of_lt_of_le lt31_6 sr32)
  have net32lt31_6 : t17 ≠ t32 := Nat.ne_of_lt (Nat.lt_of_lt_of_le lt31_6 st_32)
  have ner32lt31_7 : r22 ≠ r32 := Nat.ne_of_lt (Nat.lt_of_lt_of_le lt31_7 sr32)
  have net32lt31_7 : r22 ≠ t32 := Nat.ne_of_lt (Nat.lt_of_lt_of_le lt31_7 st_32)
  have ner32lt31_8 : t22 ≠ r32 := Nat.ne_of_lt (Nat.lt_of_lt_of_le lt31_8 sr32)
  have net32lt31_8 : t22 ≠ t32 := Nat.ne_of_lt (Nat.lt_of_lt_of_le lt31_8 st_32)
  have ner32lt31_9 : r27 ≠ r32 := Nat.ne_of_lt (Nat.lt_of_lt_of_le lt31_9 sr32)
  have net32lt31_9 : r27 ≠ t32 := Nat.ne_of_lt (Nat.lt_of_lt_of_le lt31_9 st_32)
  have ner32lt31_10 : t27 ≠ r32 := Nat.ne_of_lt (Nat.lt_of_lt_of_le lt31_10 sr32)
  have net32lt31_10 : t27 ≠ t32 := Nat.ne_of_lt (Nat.lt_of_lt_of_le lt31_10 st_32)
  have szr32 : h0.size ≤ r32 := Nat.le_trans KC29.1 sr32
  have szt32 : h0.size ≤ t32 := Nat.le_trans KC29.1 st_32
  have E_r32 : Exa Z T32.heap r32 "java/lang/String" := Qe32
  have Fv_r32 : Fld Z T32.heap r32 "java/lang/String" "value" "[B" (.ref t32) := Qv32
  have Fc_r32 : Fld Z T32.heap r32 "java/lang/String" "coder" "B" (.int (0 : Int32)) := Qc32
  have V_r32 : Arv Z T32.heap t32 kk32 .byte (Int32.ofNat (own_sv (((p2.toUInt32 >>> ((8 : Int32) &&& 31).toUInt32).toInt32) &&& (255 : Int32))).length) (((own_sv (((p2.toUInt32 >>> ((8 : Int32) &&& 31).toUInt32).toInt32) &&& (255 : Int32))).map (fun c => c.toInt8.toInt32)).map Value.int) (.int (0 : Int32)) := Qa32
  have pre35 : ∀ tgt, Steps p.tables e below (T32.setTop (mkF m 96 #[.val (.int p1), .val (.int p2), .val (.long p3), .second, .val (.long p4), .second, .val (.long p5), .second, .val (.long p6), .second, .val (.long (if (1 : Int64) < p5 then p5 else (1 : Int64))), .second, .val (.long (if (1 : Int64) < p6 then p6 else (1 : Int64))), .second, .val (.ref r7), .val (.ref r12), .val (.ref r17), .val (.ref r22), .val (.ref r27), .val (.ref r32), .unset, .unset, .unset, .unset, .unset] [(.int (((p2.toUInt32 >>> ((16 : Int32) &&& 31).toUInt32).toInt32) &&& (255 : Int32)))])) tgt → Steps p.tables e below (s₁.setTop (entryFrame m #[(.int p1), (.int p2), (.long p3), (.long p4), (.long p5), (.long p6)] maxLocals)) tgt := by
    intro tgt kk
    refine pre30 tgt ?_
    refine st32 _ ?_
    show Steps p.tables e below (T32.setTop (mkF m 86 #[.val (.int p1), .val (.int p2), .val (.long p3), .second, .val (.long p4), .second, .val (.long p5), .second, .val (.long p6), .second, .val (.long (if (1 : Int64) < p5 then p5 else (1 : Int64))), .second, .val (.long (if (1 : Int64) < p6 then p6 else (1 : Int64))), .second, .val (.ref r7), .val (.ref r12), .val (.ref r17), .val (.ref r22), .val (.ref r27), .unset, .unset, .unset, .unset, .unset, .unset] [(.ref r32)])) _
    refine XS.astore X32.here hx rfl (hb hby at_86) rfl rfl (l' := #[.val (.int p1), .val (.int p2), .val (.long p3), .second, .val (.long p4), .second, .val (.long p5), .second, .val (.long p6), .second, .val (.long (if (1 : Int64) < p5 then p5 else (1 : Int64))), .second, .val (.long (if (1 : Int64) < p6 then p6 else (1 : Int64))), .second, .val (.ref r7), .val (.ref r12), .val (.ref r17), .val (.ref r22), .val (.ref r27), .val (.ref r32), .unset, .unset, .unset, .unset, .unset]) rfl ?_
    show Steps p.tables e below (T32.setTop (mkF m 88 #[.val (.int p1), .val (.int p2), .val (.long p3), .second, .val (.long p4), .second, .val (.long p5), .second, .val (.long p6), .second, .val (.long (if (1 : Int64) < p5 then p5 else (1 : Int64))), .second, .val (.long (if (1 : Int64) < p6 then p6 else (1 : Int64))), .second, .val (.ref r7), .val (.ref r12), .val (.ref r17), .val (.ref r22), .val (.ref r27), .val (.ref r32), .unset, .unset, .unset, .unset, .unset] [])) _
    refine XS.iloadN X32.here hx rfl (hb hby at_88) rfl ?_
    show Steps p.tables e below (T32.setTop (mkF m 89 #[.val (.int p1), .val (.int p2), .val (.long p3), .second, .val (.long p4), .second, .val (.long p5), .second, .val (.long p6), .second, .val (.long (if (1 : Int64) < p5 then p5 else (1 : Int64))), .second, .val (.long (if (1 : Int64) < p6 then p6 else (1 : Int64))), .second, .val (.ref r7), .val (.ref r12), .val (.ref r17), .val (.ref r22), .val (.ref r27), .val (.ref r32), .unset, .unset, .unset, .unset, .unset] [(.int p2)])) _
    refine XS.bipush X32.here hx rfl (hb hby at_89) ?_
    show Steps p.tables e below (T32.setTop (mkF m 91 #[.val (.int p1), .val (.int p2), .val (.long p3), .second, .val (.long p4), .second, .val (.long p5), .second, .val (.long p6), .second, .val (.long (if (1 : Int64) < p5 then p5 else (1 : Int64))), .second, .val (.long (if (1 : Int64) < p6 then p6 else (1 : Int64))), .second, .val (.ref r7), .val (.ref r12), .val (.ref r17), .val (.ref r22), .val (.ref r27), .val (.ref r32), .unset, .unset, .unset, .unset, .unset] [(.int (16 : Int32)), (.int p2)])) _
    refine XS.iushr X32.here hx rfl (hb hby at_91) rfl ?_
    show Steps p.tables e below (T32.setTop (mkF m 92 #[.val (.int p1), .val (.int p2), .val (.long p3), .second, .val (.long p4), .second, .val (.long p5), .second, .val (.long p6), .second, .val (.long (if (1 : Int64) < p5 then p5 else (1 : Int64))), .second, .val (.long (if (1 : Int64) < p6 then p6 else (1 : Int64))), .second, .val (.ref r7), .val (.ref r12), .val (.ref r17), .val (.ref r22), .val (.ref r27), .val (.ref r32), .unset, .unset, .unset, .unset, .unset] [(.int ((p2.toUInt32 >>> ((16 : Int32) &&& 31).toUInt32).toInt32))])) _
    refine XS.sipush X32.here hx rfl (hb hby at_92) ?_
    show Steps p.tables e below (T32.setTop (mkF m 95 #[.val (.int p1), .val (.int p2), .val (.long p3), .second, .val (.long p4), .second, .val (.long p5), .second, .val (.long p6), .second, .val (.long (if (1 : Int64) < p5 then p5 else (1 : Int64))), .second, .val (.long (if (1 : Int64) < p6 then p6 else (1 : Int64))), .second, .val (.ref r7), .val (.ref r12), .val (.ref r17), .val (.ref r22), .val (.ref r27), .val (.ref r32), .unset, .unset, .unset, .unset, .unset] [(.int (255 : Int32)), (.int ((p2.toUInt32 >>> ((16 : Int32) &&& 31).toUInt32).toInt32))])) _
    refine XS.iand X32.here hx rfl (hb hby at_95) rfl ?_
    show Steps p.tables e below (T32.setTop (mkF m 96 #[.val (.int p1), .val (.int p2), .val (.long p3), .second, .val (.long p4), .second, .val (.long p5), .second, .val (.long p6), .second, .val (.long (if (1 : Int64) < p5 then p5 else (1 : Int64))), .second, .val (.long (if (1 : Int64) < p6 then p6 else (1 : Int64))), .second, .val (.ref r7), .val (.ref r12), .val (.ref r17), .val (.ref r22), .val (.ref r27), .val (.ref r32), .unset, .unset, .unset, .unset, .unset] [(.int (((p2.toUInt32 >>> ((16 : Int32) &&& 31).toUInt32).toInt32) &&& (255 : Int32)))])) _
    exact kk
  have lt36_0 := E_I.lt
  have lt36_1 := E_r7.lt
  have lt36_2 := V_r7.lt
  have lt36_3 := E_r12.lt
  have lt36_4 := V_r12.lt
  have lt36_5 := E_r17.lt
  have lt36_6 := V_r17.lt
  have lt36_7 := E_r22.lt
  have lt36_8 := V_r22.lt
  have lt36_9 := E_r27.lt
  have lt36_10 := V_r27.lt
  have lt36_11 := E_r32.lt
  have lt36_12 := V_r32.lt
  obtain ⟨_, _, ⟨T37, L37, k37, n37⟩, -, X37, ⟨Lc37, hQ37, l37, y37, z37⟩, st37⟩ := Jvm.LawKit.callS X32 hx (y := (⟨"com/example/leasehold/leasehold/LeaseRequestHasTermsOfPinLaw", "str", "(I)Ljava/lang/String;"⟩ : MethodName)) hown (mvT hZ (hw _ (List.mem_of_getElem? (i := 4) rfl))) (mvT hZ (hw _ (List.mem_of_getElem? (i := 5) rfl))) (mvT hZ (hw _ (List.mem_of_getElem? (i := 6) rfl))) (mvT hZ (hw _ (List.mem_of_getElem? (i := 7) rfl))) (by decide) (backOf (W := 0) (rmStr l Z a0 hw [] ((((p2.toUInt32 >>> ((16 : Int32) &&& 31).toUInt32).toInt32) &&& (255 : Int32))) z0 T32.heap n0 Zs34 S_CS hz) hZ (hw _ (List.mem_of_getElem? (i := 7) rfl)) (hw _ (List.mem_of_getElem? (i := 6) rfl)) (by decide) (by decide)) (g := (mkF m 96 #[.val (.int p1), .val (.int p2), .val (.long p3), .second, .val (.long p4), .second, .val (.long p5), .second, .val (.long p6), .second, .val (.long (if (1 : Int64) < p5 then p5 else (1 : Int64))), .second, .val (.long (if (1 : Int64) < p6 then p6 else (1 : Int64))), .second, .val (.ref r7), .val (.ref r12), .val (.ref r17), .val (.ref r22), .val (.ref r27), .val (.ref r32), .unset, .unset, .unset, .unset, .unset] [(.int (((p2.toUInt32 >>> ((16 : Int32) &&& 31).toUInt32).toInt32) &&& (255 : Int32)))])) rfl (by rw [hml]; rfl) (argsL := [(.int (((p2.toUInt32 >>> ((16 : Int32) &&& 31).toUInt32).toInt32) &&& (255 : Int32)))]) (rest := []) (lenOf pd__I_Ljava_lang_String_ rfl) rfl (by show 2 * 0 + _ ≤ _; exact Nat.le_of_eq rfl) (hb hby at_96) (fun _ _ => ⟨rfl, rfl, (by decide : 18 + 3 ≤ _), (by decide : 48 + 8 ≤ _)⟩)
  dsimp only [Pt.U, Pt.locs, Pt.cells, Pt.slots] at X37 l37 y37 z37 st37 hQ37
  subst l37 y37 z37
  obtain ⟨r37, t37, kk37, rfl, N37q, K37, gr37, sr37, gt37, st_37, Qe37, Qv37, Qc37, Qa37⟩ := hQ37
  have N37 := Fr.app N32 N37q
  have CA38 : CHr Z own_EL s.vm T32.heap s.vm T37.heap := CHr.keep K37 sf0 CH33.1
  have CH38 : CHr Z own_EL s.vm h0 s.vm T37.heap := CH33.trans CA38
  have S_CS : Sta Z T37.heap "java/lang/String" "COMPACT_STRINGS" "Z" (.int z0) := own_sta_keep S_CS K37 all0
  have S_A : Sta Z T37.heap "java/lang/CharacterDataLatin1" "A" "[I" (.ref aA) := own_sta_keep S_A K37 all0
  have S_I : Sta Z T37.heap "java/lang/CharacterDataLatin1" "instance" "Ljava/lang/CharacterDataLatin1;" (.ref aI) := own_sta_keep S_I K37 all0
  have E_I : Exa Z T37.heap aI "java/lang/CharacterDataLatin1" := E_I.keep K37
  have E_r7 : Exa Z T37.heap r7 "java/lang/String" := E_r7.keep K37
  have Fv_r7 : Fld Z T37.heap r7 "java/lang/String" "value" "[B" (.ref t7) := Fv_r7.keep K37 nin0
  have Fc_r7 : Fld Z T37.heap r7 "java/lang/String" "coder" "B" (.int (0 : Int32)) := Fc_r7.keep K37 nin0
  have V_r7 : Arv Z T37.heap t7 kk7 .byte (Int32.ofNat (own_sv (p1 &&& (255 : Int32))).length) (((own_sv (p1 &&& (255 : Int32))).map (fun c => c.toInt8.toInt32)).map Value.int) (.int (0 : Int32)) := V_r7.keep K37 nin0
  have E_r12 : Exa Z T37.heap r12 "java/lang/String" := E_r12.keep K37
  have Fv_r12 : Fld Z T37.heap r12 "java/lang/String" "value" "[B" (.ref t12) := Fv_r12.keep K37 nin0
  have Fc_r12 : Fld Z T37.heap r12 "java/lang/String" "coder" "B" (.int (0 : Int32)) := Fc_r12.keep K37 nin0
  have V_r12 : Arv Z T37.heap t12 kk12 .byte (Int32.ofNat (own_sv (((p1.toUInt32 >>> ((8 : Int32) &&& 31).toUInt32).toInt32) &&& (255 : Int32))).length) (((own_sv (((p1.toUInt32 >>> ((8 : Int32) &&& 31).toUInt32).toInt32) &&& (255 : Int32))).map (fun c => c.toInt8.toInt32)).map Value.int) (.int (0 : Int32)) := V_r12.keep K37 nin0
  have E_r17 : Exa Z T37.heap r17 "java/lang/String" := E_r17.keep K37
  have Fv_r17 : Fld Z T37.heap r17 "java/lang/String" "value" "[B" (.ref t17) := Fv_r17.keep K37 nin0
  have Fc_r17 : Fld Z T37.heap r17 "java/lang/String" "coder" "B" (.int (0 : Int32)) := Fc_r17.keep K37 nin0
  have V_r17 : Arv Z T37.heap t17 kk17 .byte (Int32.ofNat (own_sv (((p1.toUInt32 >>> ((16 : Int32) &&& 31).toUInt32).toInt32) &&& (255 : Int32))).length) (((own_sv (((p1.toUInt32 >>> ((16 : Int32) &&& 31).toUInt32).toInt32) &&& (255 : Int32))).map (fun c => c.toInt8.toInt32)).map Value.int) (.int (0 : Int32)) := V_r17.keep K37 nin0
  have E_r22 : Exa Z T37.heap r22 "java/lang/String" := E_r22.keep K37
  have Fv_r22 : Fld Z T37.heap r22 "java/lang/String" "value" "[B" (.ref t22) := Fv_r22.keep K37 nin0
  have Fc_r22 : Fld Z T37.heap r22 "java/lang/String" "coder" "B" (.int (0 : Int32)) := Fc_r22.keep K37 nin0
  have V_r22 : Arv Z T37.heap t22 kk22 .byte (Int32.ofNat (own_sv (((p1.toUInt32 >>> ((24 : Int32) &&& 31).toUInt32).toInt32) &&& (255 : Int32))).length) (((own_sv (((p1.toUInt32 >>> ((24 : Int32) &&& 31).toUInt32).toInt32) &&& (255 : Int32))).map (fun c => c.toInt8.toInt32)).map Value.int) (.int (0 : Int32)) := V_r22.keep K37 nin0
  have E_r27 : Exa Z T37.heap r27 "java/lang/String" := E_r27.keep K37
  have Fv_r27 : Fld Z T37.heap r27 "java/lang/String" "value" "[B" (.ref t27) := Fv_r27.keep K37 nin0
  have Fc_r27 : Fld Z T37.heap r27 "java/lang/String" "coder" "B" (.int (0 : Int32)) := Fc_r27.keep K37 nin0
  have V_r27 : Arv Z T37.heap t27 kk27 .byte (Int32.ofNat (own_sv (p2 &&& (255 : Int32))).length) (((own_sv (p2 &&& (255 : Int32))).map (fun c => c.toInt8.toInt32)).map Value.int) (.int (0 : Int32)) := V_r27.keep K37 nin0
  have E_r32 : Exa Z T37.heap r32 "java/lang/String" := E_r32.keep K37
  have Fv_r32 : Fld Z T37.heap r32 "java/lang/String" "value" "[B" (.ref t32) := Fv_r32.keep K37 nin0
  have Fc_r32 : Fld Z T37.heap r32 "java/lang/String" "coder" "B" (.int (0 : Int32)) := Fc_r32.keep K37 nin0
  have V_r32 : Arv Z T37.heap t32 kk32 .byte (Int32.ofNat (own_sv (((p2.toUInt32 >>> ((8 : Int32) &&& 31).toUInt32).toInt32) &&& (255 : Int32))).length) (((own_sv (((p2.toUInt32 >>> ((8 : Int32) &&& 31).toUInt32).toInt32) &&& (255 : Int32))).map (fun c => c.toInt8.toInt32)).map Value.int) (.int (0 : Int32)) := V_r32.keep K37 nin0
  have Zs39 : n0 ≤ T37.heap.size := Nat.le_trans Zs34 K37.1
  have KC39 : Keep h0 T37.heap [] := KC34.trans K37 all0
  have ner37lt36_0 : aI ≠ r37 := Nat.ne_of_lt (Nat.lt_of_lt_of_le lt36_0 sr37)
  have net37lt36_0 : aI ≠ t37 := Nat.ne_of_lt (Nat.lt_of_lt_of_le lt36_0 st_37)
  have ner37lt36_1 : r7 ≠ r37 := Nat.ne_of_lt (Nat.lt_of_lt_of_le lt36_1 sr37)
  have net37lt36_1 : r7 ≠ t37 := Nat.ne_of_lt (Nat.lt_of_lt_of_le lt36_1 st_37)
  have ner37lt36_2 : t7 ≠ r37 := Nat.ne_of_lt (Nat.lt_of_lt_of_le lt36_2 sr37)
  have net37lt36_2 : t7 ≠ t37 := Nat.ne_of_lt (Nat.lt_of_lt_of_le lt36_2 st_37)
  have ner37lt36_3 : r12 ≠ r37 := Nat.ne_of_lt (Nat.lt_of_lt_of_le lt36_3 sr37)
  have net37lt36_3 : r12 ≠ t37 := Nat.ne_of_lt (Nat.lt_of_lt_of_le lt36_3 st_37)
  have ner37lt36_4 : t12 ≠ r37 := Nat.ne_of_lt (Nat.lt_of_lt_of_le lt36_4 sr37)
  have net37lt36_4 : t12 ≠ t37 := Nat.ne_of_lt (Nat.lt_of_lt_of_le lt36_4 st_37)
  have ner37lt36_5 : r17 ≠ r37 := Nat.ne_of_lt (Nat.lt_of_lt_of_le lt36_5 sr37)
  have net37lt36_5 : r17 ≠ t37 := Nat.ne_of_lt (Nat.lt_of_lt_of_le lt36_5 st_37)
  have ner37lt36_6 : t17 ≠ r37 := Nat.ne_of_lt (Nat.lt_of_lt_of_le lt36_6 sr37)
  have net37lt36_6 : t17 ≠ t37 := Nat.ne_of_lt (Nat.lt_of_lt_of_le lt36_6 st_37)
  have ner37lt36_7 : r22 ≠ r37 := Nat.ne_of_lt (Nat.lt_of_lt_of_le lt36_7 sr37)
  have net37lt36_7 : r22 ≠ t37 := Nat.ne_of_lt (Nat.lt_of_lt_of_le lt36_7 st_37)
  have ner37lt36_8 : t22 ≠ r37 := Nat.ne_of_lt (Nat.lt_of_lt_of_le lt36_8 sr37)
  have net37lt36_8 : t22 ≠ t37 := Nat.ne_of_lt (Nat.lt_of_lt_of_le lt36_8 st_37)
  have ner37lt36_9 : r27 ≠ r37 := Nat.ne_of_lt (Nat.lt_of_lt_of_le lt36_9 sr37)
  have net37lt36_9 : r27 ≠ t37 := Nat.ne_of_lt (Nat.lt_of_lt_of_le lt36_9 st_37)
  have ner37lt36_10 : t27 ≠ r37 := Nat.ne_of_lt (Nat.lt_of_lt_of_le lt36_10 sr37)
  have net37lt36_10 : t27 ≠ t37 := Nat.ne_of_lt (Nat.lt_of_lt_of_le lt36_10 st_37)
  have ner37lt36_11 : r32 ≠ r37 := Nat.ne_of_lt (Nat.lt_of_lt_of_le lt36_11 sr37)
  have net37lt36_11 : r32 ≠ t37 := Nat.ne_of_lt (Nat.lt_of_lt_of_le lt36_11 st_37)
  have ner37lt36_12 : t32 ≠ r37 := Nat.ne_of_lt (Nat.lt_of_lt_of_le lt36_12 sr37)
  have net37lt36_12 : t32 ≠ t37 := Nat.ne_of_lt (Nat.lt_of_lt_of_le lt36_12 st_37)
  have szr37 : h0.size ≤ r37 := Nat.le_trans KC34.1 sr37
  have szt37 : h0.size ≤ t37 := Nat.le_trans KC34.1 st_37
  have E_r37 : Exa Z T37.heap r37 "java/lang/String" := Qe37
  have Fv_r37 : Fld Z T37.heap r37 "java/lang/String" "value" "[B" (.ref t37) := Qv37
  have Fc_r37 : Fld Z T37.heap r37 "java/lang/String" "coder" "B" (.int (0 : Int32)) := Qc37
  have V_r37 : Arv Z T37.heap t37 kk37 .byte (Int32.ofNat (own_sv (((p2.toUInt32 >>> ((16 : Int32) &&& 31).toUInt32).toInt32) &&& (255 : Int32))).length) (((own_sv (((p2.toUInt32 >>> ((16 : Int32) &&& 31).toUInt32).toInt32) &&& (255 : Int32))).map (fun c => c.toInt8.toInt32)).map Value.int) (.int (0 : Int32)) := Qa37
  have pre40 : ∀ tgt, Steps p.tables e below (T37.setTop (mkF m 109 #[.val (.int p1), .val (.int p2), .val (.long p3), .second, .val (.long p4), .second, .val (.long p5), .second, .val (.long p6), .second, .val (.long (if (1 : Int64) < p5 then p5 else (1 : Int64))), .second, .val (.long (if (1 : Int64) < p6 then p6 else (1 : Int64))), .second, .val (.ref r7), .val (.ref r12), .val (.ref r17), .val (.ref r22), .val (.ref r27), .val (.ref r32), .val (.ref r37), .unset, .unset, .unset, .unset] [(.int (((p2.toUInt32 >>> ((24 : Int32) &&& 31).toUInt32).toInt32) &&& (255 : Int32)))])) tgt → Steps p.tables e below (s₁.setTop (entryFrame m #[(.int p1), (.int p2), (.long p3), (.long p4), (.long p5), (.long p6)] maxLocals)) tgt := by
    intro tgt kk
    refine pre35 tgt ?_
    refine st37 _ ?_
    show Steps p.tables e below (T37.setTop (mkF m 99 #[.val (.int p1), .val (.int p2), .val (.long p3), .second, .val (.long p4), .second, .val (.long p5), .second, .val (.long p6), .second, .val (.long (if (1 : Int64) < p5 then p5 else (1 : Int64))), .second, .val (.long (if (1 : Int64) < p6 then p6 else (1 : Int64))), .second, .val (.ref r7), .val (.ref r12), .val (.ref r17), .val (.ref r22), .val (.ref r27), .val (.ref r32), .unset, .unset, .unset, .unset, .unset] [(.ref r37)])) _
    refine XS.astore X37.here hx rfl (hb hby at_99) rfl rfl (l' := #[.val (.int p1), .val (.int p2), .val (.long p3), .second, .val (.long p4), .second, .val (.long p5), .second, .val (.long p6), .second, .val (.long (if (1 : Int64) < p5 then p5 else (1 : Int64))), .second, .val (.long (if (1 : Int64) < p6 then p6 else (1 : Int64))), .second, .val (.ref r7), .val (.ref r12), .val (.ref r17), .val (.ref r22), .val (.ref r27), .val (.ref r32), .val (.ref r37), .unset, .unset, .unset, .unset]) rfl ?_
    show Steps p.tables e below (T37.setTop (mkF m 101 #[.val (.int p1), .val (.int p2), .val (.long p3), .second, .val (.long p4), .second, .val (.long p5), .second, .val (.long p6), .second, .val (.long (if (1 : Int64) < p5 then p5 else (1 : Int64))), .second, .val (.long (if (1 : Int64) < p6 then p6 else (1 : Int64))), .second, .val (.ref r7), .val (.ref r12), .val (.ref r17), .val (.ref r22), .val (.ref r27), .val (.ref r32), .val (.ref r37), .unset, .unset, .unset, .unset] [])) _
    refine XS.iloadN X37.here hx rfl (hb hby at_101) rfl ?_
    show Steps p.tables e below (T37.setTop (mkF m 102 #[.val (.int p1), .val (.int p2), .val (.long p3), .second, .val (.long p4), .second, .val (.long p5), .second, .val (.long p6), .second, .val (.long (if (1 : Int64) < p5 then p5 else (1 : Int64))), .second, .val (.long (if (1 : Int64) < p6 then p6 else (1 : Int64))), .second, .val (.ref r7), .val (.ref r12), .val (.ref r17), .val (.ref r22), .val (.ref r27), .val (.ref r32), .val (.ref r37), .unset, .unset, .unset, .unset] [(.int p2)])) _
    refine XS.bipush X37.here hx rfl (hb hby at_102) ?_
    show Steps p.tables e below (T37.setTop (mkF m 104 #[.val (.int p1), .val (.int p2), .val (.long p3), .second, .val (.long p4), .second, .val (.long p5), .second, .val (.long p6), .second, .val (.long (if (1 : Int64) < p5 then p5 else (1 : Int64))), .second, .val (.long (if (1 : Int64) < p6 then p6 else (1 : Int64))), .second, .val (.ref r7), .val (.ref r12), .val (.ref r17), .val (.ref r22), .val (.ref r27), .val (.ref r32), .val (.ref r37), .unset, .unset, .unset, .unset] [(.int (24 : Int32)), (.int p2)])) _
    refine XS.iushr X37.here hx rfl (hb hby at_104) rfl ?_
    show Steps p.tables e below (T37.setTop (mkF m 105 #[.val (.int p1), .val (.int p2), .val (.long p3), .second, .val (.long p4), .second, .val (.long p5), .second, .val (.long p6), .second, .val (.long (if (1 : Int64) < p5 then p5 else (1 : Int64))), .second, .val (.long (if (1 : Int64) < p6 then p6 else (1 : Int64))), .second, .val (.ref r7), .val (.ref r12), .val (.ref r17), .val (.ref r22), .val (.ref r27), .val (.ref r32), .val (.ref r37), .unset, .unset, .unset, .unset] [(.int ((p2.toUInt32 >>> ((24 : Int32) &&& 31).toUInt32).toInt32))])) _
    refine XS.sipush X37.here hx rfl (hb hby at_105) ?_
    show Steps p.tables e below (T37.setTop (mkF m 108 #[.val (.int p1), .val (.int p2), .val (.long p3), .second, .val (.long p4), .second, .val (.long p5), .second, .val (.long p6), .second, .val (.long (if (1 : Int64) < p5 then p5 else (1 : Int64))), .second, .val (.long (if (1 : Int64) < p6 then p6 else (1 : Int64))), .second, .val (.ref r7), .val (.ref r12), .val (.ref r17), .val (.ref r22), .val (.ref r27), .val (.ref r32), .val (.ref r37), .unset, .unset, .unset, .unset] [(.int (255 : Int32)), (.int ((p2.toUInt32 >>> ((24 : Int32) &&& 31).toUInt32).toInt32))])) _
    refine XS.iand X37.here hx rfl (hb hby at_108) rfl ?_
    show Steps p.tables e below (T37.setTop (mkF m 109 #[.val (.int p1), .val (.int p2), .val (.long p3), .second, .val (.long p4), .second, .val (.long p5), .second, .val (.long p6), .second, .val (.long (if (1 : Int64) < p5 then p5 else (1 : Int64))), .second, .val (.long (if (1 : Int64) < p6 then p6 else (1 : Int64))), .second, .val (.ref r7), .val (.ref r12), .val (.ref r17), .val (.ref r22), .val (.ref r27), .val (.ref r32), .val (.ref r37), .unset, .unset, .unset, .unset] [(.int (((p2.toUInt32 >>> ((24 : Int32) &&& 31).toUInt32).toInt32) &&& (255 : Int32)))])) _
    exact kk
  have lt41_0 := E_I.lt
  have lt41_1 := E_r7.lt
  have lt41_2 := V_r7.lt
  have lt41_3 := E_r12.lt
  have lt41_4 := V_r12.lt
  have lt41_5 := E_r17.lt
  have lt41_6 := V_r17.lt
  have lt41_7 := E_r22.lt
  have lt41_8 := V_r22.lt
  have lt41_9 := E_r27.lt
  have lt41_10 := V_r27.lt
  have lt41_11 := E_r32.lt
  have lt41_12 := V_r32.lt
  have lt41_13 := E_r37.lt
  have lt41_14 := V_r37.lt
  obtain ⟨_, _, ⟨T42, L42, k42, n42⟩, -, X42, ⟨Lc42, hQ42, l42, y42, z42⟩, st42⟩ := Jvm.LawKit.callS X37 hx (y := (⟨"com/example/leasehold/leasehold/LeaseRequestHasTermsOfPinLaw", "str", "(I)Ljava/lang/String;"⟩ : MethodName)) hown (mvT hZ (hw _ (List.mem_of_getElem? (i := 4) rfl))) (mvT hZ (hw _ (List.mem_of_getElem? (i := 5) rfl))) (mvT hZ (hw _ (List.mem_of_getElem? (i := 6) rfl))) (mvT hZ (hw _ (List.mem_of_getElem? (i := 7) rfl))) (by decide) (backOf (W := 0) (rmStr l Z a0 hw [] ((((p2.toUInt32 >>> ((24 : Int32) &&& 31).toUInt32).toInt32) &&& (255 : Int32))) z0 T37.heap n0 Zs39 S_CS hz) hZ (hw _ (List.mem_of_getElem? (i := 7) rfl)) (hw _ (List.mem_of_getElem? (i := 6) rfl)) (by decide) (by decide)) (g := (mkF m 109 #[.val (.int p1), .val (.int p2), .val (.long p3), .second, .val (.long p4), .second, .val (.long p5), .second, .val (.long p6), .second, .val (.long (if (1 : Int64) < p5 then p5 else (1 : Int64))), .second, .val (.long (if (1 : Int64) < p6 then p6 else (1 : Int64))), .second, .val (.ref r7), .val (.ref r12), .val (.ref r17), .val (.ref r22), .val (.ref r27), .val (.ref r32), .val (.ref r37), .unset, .unset, .unset, .unset] [(.int (((p2.toUInt32 >>> ((24 : Int32) &&& 31).toUInt32).toInt32) &&& (255 : Int32)))])) rfl (by rw [hml]; rfl) (argsL := [(.int (((p2.toUInt32 >>> ((24 : Int32) &&& 31).toUInt32).toInt32) &&& (255 : Int32)))]) (rest := []) (lenOf pd__I_Ljava_lang_String_ rfl) rfl (by show 2 * 0 + _ ≤ _; exact Nat.le_of_eq rfl) (hb hby at_109) (fun _ _ => ⟨rfl, rfl, (by decide : 21 + 3 ≤ _), (by decide : 56 + 8 ≤ _)⟩)
  dsimp only [Pt.U, Pt.locs, Pt.cells, Pt.slots] at X42 l42 y42 z42 st42 hQ42
  subst l42 y42 z42
  obtain ⟨r42, t42, kk42, rfl, N42q, K42, gr42, sr42, gt42, st_42, Qe42, Qv42, Qc42, Qa42⟩ := hQ42
  have N42 := Fr.app N37 N42q
  have CA43 : CHr Z own_EL s.vm T37.heap s.vm T42.heap := CHr.keep K42 sf0 CH38.1
  have CH43 : CHr Z own_EL s.vm h0 s.vm T42.heap := CH38.trans CA43
  have S_CS : Sta Z T42.heap "java/lang/String" "COMPACT_STRINGS" "Z" (.int z0) := own_sta_keep S_CS K42 all0
  have S_A : Sta Z T42.heap "java/lang/CharacterDataLatin1" "A" "[I" (.ref aA) := own_sta_keep S_A K42 all0
  have S_I : Sta Z T42.heap "java/lang/CharacterDataLatin1" "instance" "Ljava/lang/CharacterDataLatin1;" (.ref aI) := own_sta_keep S_I K42 all0
  have E_I : Exa Z T42.heap aI "java/lang/CharacterDataLatin1" := E_I.keep K42
  have E_r7 : Exa Z T42.heap r7 "java/lang/String" := E_r7.keep K42
  have Fv_r7 : Fld Z T42.heap r7 "java/lang/String" "value" "[B" (.ref t7) := Fv_r7.keep K42 nin0
  have Fc_r7 : Fld Z T42.heap r7 "java/lang/String" "coder" "B" (.int (0 : Int32)) := Fc_r7.keep K42 nin0
  have V_r7 : Arv Z T42.heap t7 kk7 .byte (Int32.ofNat (own_sv (p1 &&& (255 : Int32))).length) (((own_sv (p1 &&& (255 : Int32))).map (fun c => c.toInt8.toInt32)).map Value.int) (.int (0 : Int32)) := V_r7.keep K42 nin0
  have E_r12 : Exa Z T42.heap r12 "java/lang/String" := E_r12.keep K42
  have Fv_r12 : Fld Z T42.heap r12 "java/lang/String" "value" "[B" (.ref t12) := Fv_r12.keep K42 nin0
  have Fc_r12 : Fld Z T42.heap r12 "java/lang/String" "coder" "B" (.int (0 : Int32)) := Fc_r12.keep K42 nin0
  have V_r12 : Arv Z T42.heap t12 kk12 .byte (Int32.ofNat (own_sv (((p1.toUInt32 >>> ((8 : Int32) &&& 31).toUInt32).toInt32) &&& (255 : Int32))).length) (((own_sv (((p1.toUInt32 >>> ((8 : Int32) &&& 31).toUInt32).toInt32) &&& (255 : Int32))).map (fun c => c.toInt8.toInt32)).map Value.int) (.int (0 : Int32)) := V_r12.keep K42 nin0
  have E_r17 : Exa Z T42.heap r17 "java/lang/String" := E_r17.keep K42
  have Fv_r17 : Fld Z T42.heap r17 "java/lang/String" "value" "[B" (.ref t17) := Fv_r17.keep K42 nin0
  have Fc_r17 : Fld Z T42.heap r17 "java/lang/String" "coder" "B" (.int (0 : Int32)) := Fc_r17.keep K42 nin0
  have V_r17 : Arv Z T42.heap t17 kk17 .byte (Int32.ofNat (own_sv (((p1.toUInt32 >>> ((16 : Int32) &&& 31).toUInt32).toInt32) &&& (255 : Int32))).length) (((own_sv (((p1.toUInt32 >>> ((16 : Int32) &&& 31).toUInt32).toInt32) &&& (255 : Int32))).map (fun c => c.toInt8.toInt32)).map Value.int) (.int (0 : Int32)) := V_r17.keep K42 nin0
  have E_r22 : Exa Z T42.heap r22 "java/lang/String" := E_r22.keep K42
  have Fv_r22 : Fld Z T42.heap r22 "java/lang/String" "value" "[B" (.ref t22) := Fv_r22.keep K42 nin0
  have Fc_r22 : Fld Z T42.heap r22 "java/lang/String" "coder" "B" (.int (0 : Int32)) := Fc_r22.keep K42 nin0
  have V_r22 : Arv Z T42.heap t22 kk22 .byte (Int32.ofNat (own_sv (((p1.toUInt32 >>> ((24 : Int32) &&& 31).toUInt32).toInt32) &&& (255 : Int32))).length) (((own_sv (((p1.toUInt32 >>> ((24 : Int32) &&& 31).toUInt32).toInt32) &&& (255 : Int32))).map (fun c => c.toInt8.toInt32)).map Value.int) (.int (0 : Int32)) := V_r22.keep K42 nin0
  have E_r27 : Exa Z T42.heap r27 "java/lang/String" := E_r27.keep K42
  have Fv_r27 : Fld Z T42.heap r27 "java/lang/String" "value" "[B" (.ref t27) := Fv_r27.keep K42 nin0
  have Fc_r27 : Fld Z T42.heap r27 "java/lang/String" "coder" "B" (.int (0 : Int32)) := Fc_r27.keep K42 nin0
  have V_r27 : Arv Z T42.heap t27 kk27 .byte (Int32.ofNat (own_sv (p2 &&& (255 : Int32))).length) (((own_sv (p2 &&& (255 : Int32))).map (fun c => c.toInt8.toInt32)).map Value.int) (.int (0 : Int32)) := V_r27.keep K42 nin0
  have E_r32 : Exa Z T42.heap r32 "java/lang/String" := E_r32.keep K42
  have Fv_r32 : Fld Z T42.heap r32 "java/lang/String" "value" "[B" (.ref t32) := Fv_r32.keep K42 nin0
  have Fc_r32 : Fld Z T42.heap r32 "java/lang/String" "coder" "B" (.int (0 : Int32)) := Fc_r32.keep K42 nin0
  have V_r32 : Arv Z T42.heap t32 kk32 .byte (Int32.ofNat (own_sv (((p2.toUInt32 >>> ((8 : Int32) &&& 31).toUInt32).toInt32) &&& (255 : Int32))).length) (((own_sv (((p2.toUInt32 >>> ((8 : Int32) &&& 31).toUInt32).toInt32) &&& (255 : Int32))).map (fun c => c.toInt8.toInt32)).map Value.int) (.int (0 : Int32)) := V_r32.keep K42 nin0
  have E_r37 : Exa Z T42.heap r37 "java/lang/String" := E_r37.keep K42
  have Fv_r37 : Fld Z T42.heap r37 "java/lang/String" "value" "[B" (.ref t37) := Fv_r37.keep K42 nin0
  have Fc_r37 : Fld Z T42.heap r37 "java/lang/String" "coder" "B" (.int (0 : Int32)) := Fc_r37.keep K42 nin0
  have V_r37 : Arv Z T42.heap t37 kk37 .byte (Int32.ofNat (own_sv (((p2.toUInt32 >>> ((16 : Int32) &&& 31).toUInt32).toInt32) &&& (255 : Int32))).length) (((own_sv (((p2.toUInt32 >>> ((16 : Int32) &&& 31).toUInt32).toInt32) &&& (255 : Int32))).map (fun c => c.toInt8.toInt32)).map Value.int) (.int (0 : Int32)) := V_r37.keep K42 nin0
  have Zs44 : n0 ≤ T42.heap.size := Nat.le_trans Zs39 K42.1
  have KC44 : Keep h0 T42.heap [] := KC39.trans K42 all0
  have ner42lt41_0 : aI ≠ r42 := Nat.ne_of_lt (Nat.lt_of_lt_of_le lt41_0 sr42)
  have net42lt41_0 : aI ≠ t42 := Nat.ne_of_lt (Nat.lt_of_lt_of_le lt41_0 st_42)
  have ner42lt41_1 : r7 ≠ r42 := Nat.ne_of_lt (Nat.lt_of_lt_of_le lt41_1 sr42)
  have net42lt41_1 : r7 ≠ t42 := Nat.ne_of_lt (Nat.lt_of_lt_of_le lt41_1 st_42)
  have ner42lt41_2 : t7 ≠ r42 := Nat.ne_of_lt (Nat.lt_of_lt_of_le lt41_2 sr42)
  have net42lt41_2 : t7 ≠ t42 := Nat.ne_of_lt (Nat.lt_of_lt_of_le lt41_2 st_42)
  have ner42lt41_3 : r12 ≠ r42 := Nat.ne_of_lt (Nat.lt_of_lt_of_le lt41_3 sr42)
  have net42lt41_3 : r12 ≠ t42 := Nat.ne_of_lt (Nat.lt_of_lt_of_le lt41_3 st_42)
  have ner42lt41_4 : t12 ≠ r42 := Nat.ne_of_lt (Nat.lt_of_lt_of_le lt41_4 sr42)
  have net42lt41_4 : t12 ≠ t42 := Nat.ne_of_lt (Nat.lt_of_lt_of_le lt41_4 st_42)
  have ner42lt41_5 : r17 ≠ r42 := Nat.ne_of_lt (Nat.lt_of_lt_of_le lt41_5 sr42)
  have net42lt41_5 : r17 ≠ t42 := Nat.ne_of_lt (Nat.lt_of_lt_of_le lt41_5 st_42)
  have ner42lt41_6 : t17 ≠ r42 := Nat.ne_of_lt (Nat.lt_of_lt_of_le lt41_6 sr42)
  have net42lt41_6 : t17 ≠ t42 := Nat.ne_of_lt (Nat.lt_of_lt_of_le lt41_6 st_42)
  have ner42lt41_7 : r22 ≠ r42 := Nat.ne_of_lt (Nat.lt_of_lt_of_le lt41_7 sr42)
  have net42lt41_7 : r22 ≠ t42 := Nat.ne_of_lt (Nat.lt_of_lt_of_le lt41_7 st_42)
  have ner42lt41_8 : t22 ≠ r42 := Nat.ne_of_lt (Nat.lt_of_lt_of_le lt41_8 sr42)
  have net42lt41_8 : t22 ≠ t42 := Nat.ne_of_lt (Nat.lt_of_lt_of_le lt41_8 st_42)
  have ner42lt41_9 : r27 ≠ r42 := Nat.ne_of_lt (Nat.lt_of_lt_of_le lt41_9 sr42)
  have net42lt41_9 : r27 ≠ t42 := Nat.ne_of_lt (Nat.lt_of_lt_of_le lt41_9 st_42)
  have ner42lt41_10 : t27 ≠ r42 := Nat.ne_of_lt (Nat.lt_of_lt_of_le lt41_10 sr42)
  have net42lt41_10 : t27 ≠ t42 := Nat.ne_of_lt (Nat.lt_of_lt_of_le lt41_10 st_42)
  have ner42lt41_11 : r32 ≠ r42 := Nat.ne_of_lt (Nat.lt_of_lt_of_le lt41_11 sr42)
  have net42lt41_11 : r32 ≠ t42 := Nat.ne_of_lt (Nat.lt_of_lt_of_le lt41_11 st_42)
  have ner42lt41_12 : t32 ≠ r42 := Nat.ne_of_lt (Nat.lt_of_lt_of_le lt41_12 sr42)
  have net42lt41_12 : t32 ≠ t42 := Nat.ne_of_lt (Nat.lt_of_lt_of_le lt41_12 st_42)
  have ner42lt41_13 : r37 ≠ r42 := Nat.ne_of_lt (Nat.lt_of_lt_of_le lt41_13 sr42)
  have net42lt41_13 : r37 ≠ t42 := Nat.ne_of_lt (Nat.lt_of_lt_of_le lt41_13 st_42)
  have ner42lt41_14 : t37 ≠ r42 := Nat.ne_of_lt (Nat.lt_of_lt_of_le lt41_14 sr42)
  have net42lt41_14 : t37 ≠ t42 := Nat.ne_of_lt (Nat.lt_of_lt_of_le lt41_14 st_42)
  have szr42 : h0.size ≤ r42 := Nat.le_trans KC39.1 sr42
  have szt42 : h0.size ≤ t42 := Nat.le_trans KC39.1 st_42
  have E_r42 : Exa Z T42.heap r42 "java/lang/String" := Qe42
  have Fv_r42 : Fld Z T42.heap r42 "java/lang/String" "value" "[B" (.ref t42) := Qv42
  have Fc_r42 : Fld Z T42.heap r42 "java/lang/String" "coder" "B" (.int (0 : Int32)) := Qc42
  have V_r42 : Arv Z T42.heap t42 kk42 .byte (Int32.ofNat (own_sv (((p2.toUInt32 >>> ((24 : Int32) &&& 31).toUInt32).toInt32) &&& (255 : Int32))).length) (((own_sv (((p2.toUInt32 >>> ((24 : Int32) &&& 31).toUInt32).toInt32) &&& (255 : Int32))).map (fun c => c.toInt8.toInt32)).map Value.int) (.int (0 : Int32)) := Qa42
  have pre45 : ∀ tgt, Steps p.tables e below (T42.setTop (mkF m 114 #[.val (.int p1), .val (.int p2), .val (.long p3), .second, .val (.long p4), .second, .val (.long p5), .second, .val (.long p6), .second, .val (.long (if (1 : Int64) < p5 then p5 else (1 : Int64))), .second, .val (.long (if (1 : Int64) < p6 then p6 else (1 : Int64))), .second, .val (.ref r7), .val (.ref r12), .val (.ref r17), .val (.ref r22), .val (.ref r27), .val (.ref r32), .val (.ref r37), .val (.ref r42), .unset, .unset, .unset] [])) tgt → Steps p.tables e below (s₁.setTop (entryFrame m #[(.int p1), (.int p2), (.long p3), (.long p4), (.long p5), (.long p6)] maxLocals)) tgt := by
    intro tgt kk
    refine pre40 tgt ?_
    refine st42 _ ?_
    show Steps p.tables e below (T42.setTop (mkF m 112 #[.val (.int p1), .val (.int p2), .val (.long p3), .second, .val (.long p4), .second, .val (.long p5), .second, .val (.long p6), .second, .val (.long (if (1 : Int64) < p5 then p5 else (1 : Int64))), .second, .val (.long (if (1 : Int64) < p6 then p6 else (1 : Int64))), .second, .val (.ref r7), .val (.ref r12), .val (.ref r17), .val (.ref r22), .val (.ref r27), .val (.ref r32), .val (.ref r37), .unset, .unset, .unset, .unset] [(.ref r42)])) _
    refine XS.astore X42.here hx rfl (hb hby at_112) rfl rfl (l' := #[.val (.int p1), .val (.int p2), .val (.long p3), .second, .val (.long p4), .second, .val (.long p5), .second, .val (.long p6), .second, .val (.long (if (1 : Int64) < p5 then p5 else (1 : Int64))), .second, .val (.long (if (1 : Int64) < p6 then p6 else (1 : Int64))), .second, .val (.ref r7), .val (.ref r12), .val (.ref r17), .val (.ref r22), .val (.ref r27), .val (.ref r32), .val (.ref r37), .val (.ref r42), .unset, .unset, .unset]) rfl ?_
    show Steps p.tables e below (T42.setTop (mkF m 114 #[.val (.int p1), .val (.int p2), .val (.long p3), .second, .val (.long p4), .second, .val (.long p5), .second, .val (.long p6), .second, .val (.long (if (1 : Int64) < p5 then p5 else (1 : Int64))), .second, .val (.long (if (1 : Int64) < p6 then p6 else (1 : Int64))), .second, .val (.ref r7), .val (.ref r12), .val (.ref r17), .val (.ref r22), .val (.ref r27), .val (.ref r32), .val (.ref r37), .val (.ref r42), .unset, .unset, .unset] [])) _
    exact kk
  obtain ⟨T46, h46, X46, e46, E46, A46, D46, -, st46⟩ := newO X42 hx hZ hown (hw _ (List.mem_of_getElem? (i := 34) rfl)) (hw _ (List.mem_of_getElem? (i := 35) rfl)) (hw _ (List.mem_of_getElem? (i := 36) rfl)) rfl (g := (mkF m 114 #[.val (.int p1), .val (.int p2), .val (.long p3), .second, .val (.long p4), .second, .val (.long p5), .second, .val (.long p6), .second, .val (.long (if (1 : Int64) < p5 then p5 else (1 : Int64))), .second, .val (.long (if (1 : Int64) < p6 then p6 else (1 : Int64))), .second, .val (.ref r7), .val (.ref r12), .val (.ref r17), .val (.ref r22), .val (.ref r27), .val (.ref r32), .val (.ref r37), .val (.ref r42), .unset, .unset, .unset] [])) rfl (hb hby at_114) (by decide) (by decide)
  obtain ⟨b46, g46⟩ : ∃ z, z = T42.heap.size := ⟨_, rfl⟩
  rw [← g46] at A46 D46 st46
  have ne47 : aI ≠ b46 := Nat.ne_of_lt (Nat.lt_of_lt_of_le E_I.lt (Nat.le_of_eq g46.symm))
  have ne48 : r7 ≠ b46 := Nat.ne_of_lt (Nat.lt_of_lt_of_le E_r7.lt (Nat.le_of_eq g46.symm))
  have ne49 : t7 ≠ b46 := Nat.ne_of_lt (Nat.lt_of_lt_of_le V_r7.lt (Nat.le_of_eq g46.symm))
  have ne50 : r12 ≠ b46 := Nat.ne_of_lt (Nat.lt_of_lt_of_le E_r12.lt (Nat.le_of_eq g46.symm))
  have ne51 : t12 ≠ b46 := Nat.ne_of_lt (Nat.lt_of_lt_of_le V_r12.lt (Nat.le_of_eq g46.symm))
  have ne52 : r17 ≠ b46 := Nat.ne_of_lt (Nat.lt_of_lt_of_le E_r17.lt (Nat.le_of_eq g46.symm))
  have ne53 : t17 ≠ b46 := Nat.ne_of_lt (Nat.lt_of_lt_of_le V_r17.lt (Nat.le_of_eq g46.symm))
  have ne54 : r22 ≠ b46 := Nat.ne_of_lt (Nat.lt_of_lt_of_le E_r22.lt (Nat.le_of_eq g46.symm))
  have ne55 : t22 ≠ b46 := Nat.ne_of_lt (Nat.lt_of_lt_of_le V_r22.lt (Nat.le_of_eq g46.symm))
  have ne56 : r27 ≠ b46 := Nat.ne_of_lt (Nat.lt_of_lt_of_le E_r27.lt (Nat.le_of_eq g46.symm))
  have ne57 : t27 ≠ b46 := Nat.ne_of_lt (Nat.lt_of_lt_of_le V_r27.lt (Nat.le_of_eq g46.symm))
  have ne58 : r32 ≠ b46 := Nat.ne_of_lt (Nat.lt_of_lt_of_le E_r32.lt (Nat.le_of_eq g46.symm))
  have ne59 : t32 ≠ b46 := Nat.ne_of_lt (Nat.lt_of_lt_of_le V_r32.lt (Nat.le_of_eq g46.symm))
  have ne60 : r37 ≠ b46 := Nat.ne_of_lt (Nat.lt_of_lt_of_le E_r37.lt (Nat.le_of_eq g46.symm))
  have ne61 : t37 ≠ b46 := Nat.ne_of_lt (Nat.lt_of_lt_of_le V_r37.lt (Nat.le_of_eq g46.symm))
  have ne62 : r42 ≠ b46 := Nat.ne_of_lt (Nat.lt_of_lt_of_le E_r42.lt (Nat.le_of_eq g46.symm))
  have ne63 : t42 ≠ b46 := Nat.ne_of_lt (Nat.lt_of_lt_of_le V_r42.lt (Nat.le_of_eq g46.symm))
  have gn64 : n0 ≤ b46 := Nat.le_trans Zs44 (Nat.le_of_eq g46.symm)
  have sz64 : h0.size ≤ b46 := Nat.le_trans KC44.1 (Nat.le_of_eq g46.symm)
  have CA65 : CHr Z own_EL s.vm T42.heap s.vm h46 := CHr.ext E46 CH43.1
  have CH65 : CHr Z own_EL s.vm h0 s.vm h46 := CH43.trans CA65
  have S_CS : Sta Z h46 "java/lang/String" "COMPACT_STRINGS" "Z" (.int z0) := S_CS.ext E46
  have S_A : Sta Z h46 "java/lang/CharacterDataLatin1" "A" "[I" (.ref aA) := S_A.ext E46
  have S_I : Sta Z h46 "java/lang/CharacterDataLatin1" "instance" "Ljava/lang/CharacterDataLatin1;" (.ref aI) := S_I.ext E46
  have E_I : Exa Z h46 aI "java/lang/CharacterDataLatin1" := E_I.ext E46
  have E_r7 : Exa Z h46 r7 "java/lang/String" := E_r7.ext E46
  have Fv_r7 : Fld Z h46 r7 "java/lang/String" "value" "[B" (.ref t7) := Fv_r7.ext E46
  have Fc_r7 : Fld Z h46 r7 "java/lang/String" "coder" "B" (.int (0 : Int32)) := Fc_r7.ext E46
  have V_r7 : Arv Z h46 t7 kk7 .byte (Int32.ofNat (own_sv (p1 &&& (255 : Int32))).length) (((own_sv (p1 &&& (255 : Int32))).map (fun c => c.toInt8.toInt32)).map Value.int) (.int (0 : Int32)) := V_r7.ext E46
  have E_r12 : Exa Z h46 r12 "java/lang/String" := E_r12.ext E46
  have Fv_r12 : Fld Z h46 r12 "java/lang/String" "value" "[B" (.ref t12) := Fv_r12.ext E46
  have Fc_r12 : Fld Z h46 r12 "java/lang/String" "coder" "B" (.int (0 : Int32)) := Fc_r12.ext E46
  have V_r12 : Arv Z h46 t12 kk12 .byte (Int32.ofNat (own_sv (((p1.toUInt32 >>> ((8 : Int32) &&& 31).toUInt32).toInt32) &&& (255 : Int32))).length) (((own_sv (((p1.toUInt32 >>> ((8 : Int32) &&& 31).toUInt32).toInt32) &&& (255 : Int32))).map (fun c => c.toInt8.toInt32)).map Value.int) (.int (0 : Int32)) := V_r12.ext E46
  have E_r17 : Exa Z h46 r17 "java/lang/String" := E_r17.ext E46
  have Fv_r17 : Fld Z h46 r17 "java/lang/String" "value" "[B" (.ref t17) := Fv_r17.ext E46
  have Fc_r17 : Fld Z h46 r17 "java/lang/String" "coder" "B" (.int (0 : Int32)) := Fc_r17.ext E46
  have V_r17 : Arv Z h46 t17 kk17 .byte (Int32.ofNat (own_sv (((p1.toUInt32 >>> ((16 : Int32) &&& 31).toUInt32).toInt32) &&& (255 : Int32))).length) (((own_sv (((p1.toUInt32 >>> ((16 : Int32) &&& 31).toUInt32).toInt32) &&& (255 : Int32))).map (fun c => c.toInt8.toInt32)).map Value.int) (.int (0 : Int32)) := V_r17.ext E46
  have E_r22 : Exa Z h46 r22 "java/lang/String" := E_r22.ext E46
  have Fv_r22 : Fld Z h46 r22 "java/lang/String" "value" "[B" (.ref t22) := Fv_r22.ext E46
  have Fc_r22 : Fld Z h46 r22 "java/lang/String" "coder" "B" (.int (0 : Int32)) := Fc_r22.ext E46
  have V_r22 : Arv Z h46 t22 kk22 .byte (Int32.ofNat (own_sv (((p1.toUInt32 >>> ((24 : Int32) &&& 31).toUInt32).toInt32) &&& (255 : Int32))).length) (((own_sv (((p1.toUInt32 >>> ((24 : Int32) &&& 31).toUInt32).toInt32) &&& (255 : Int32))).map (fun c => c.toInt8.toInt32)).map Value.int) (.int (0 : Int32)) := V_r22.ext E46
  have E_r27 : Exa Z h46 r27 "java/lang/String" := E_r27.ext E46
  have Fv_r27 : Fld Z h46 r27 "java/lang/String" "value" "[B" (.ref t27) := Fv_r27.ext E46
  have Fc_r27 : Fld Z h46 r27 "java/lang/String" "coder" "B" (.int (0 : Int32)) := Fc_r27.ext E46
  have V_r27 : Arv Z h46 t27 kk27 .byte (Int32.ofNat (own_sv (p2 &&& (255 : Int32))).length) (((own_sv (p2 &&& (255 : Int32))).map (fun c => c.toInt8.toInt32)).map Value.int) (.int (0 : Int32)) := V_r27.ext E46
  have E_r32 : Exa Z h46 r32 "java/lang/String" := E_r32.ext E46
  have Fv_r32 : Fld Z h46 r32 "java/lang/String" "value" "[B" (.ref t32) := Fv_r32.ext E46
  have Fc_r32 : Fld Z h46 r32 "java/lang/String" "coder" "B" (.int (0 : Int32)) := Fc_r32.ext E46
  have V_r32 : Arv Z h46 t32 kk32 .byte (Int32.ofNat (own_sv (((p2.toUInt32 >>> ((8 : Int32) &&& 31).toUInt32).toInt32) &&& (255 : Int32))).length) (((own_sv (((p2.toUInt32 >>> ((8 : Int32) &&& 31).toUInt32).toInt32) &&& (255 : Int32))).map (fun c => c.toInt8.toInt32)).map Value.int) (.int (0 : Int32)) := V_r32.ext E46
  have E_r37 : Exa Z h46 r37 "java/lang/String" := E_r37.ext E46
  have Fv_r37 : Fld Z h46 r37 "java/lang/String" "value" "[B" (.ref t37) := Fv_r37.ext E46
  have Fc_r37 : Fld Z h46 r37 "java/lang/String" "coder" "B" (.int (0 : Int32)) := Fc_r37.ext E46
  have V_r37 : Arv Z h46 t37 kk37 .byte (Int32.ofNat (own_sv (((p2.toUInt32 >>> ((16 : Int32) &&& 31).toUInt32).toInt32) &&& (255 : Int32))).length) (((own_sv (((p2.toUInt32 >>> ((16 : Int32) &&& 31).toUInt32).toInt32) &&& (255 : Int32))).map (fun c => c.toInt8.toInt32)).map Value.int) (.int (0 : Int32)) := V_r37.ext E46
  have E_r42 : Exa Z h46 r42 "java/lang/String" := E_r42.ext E46
  have Fv_r42 : Fld Z h46 r42 "java/lang/String" "value" "[B" (.ref t42) := Fv_r42.ext E46
  have Fc_r42 : Fld Z h46 r42 "java/lang/String" "coder" "B" (.int (0 : Int32)) := Fc_r42.ext E46
  have V_r42 : Arv Z h46 t42 kk42 .byte (Int32.ofNat (own_sv (((p2.toUInt32 >>> ((24 : Int32) &&& 31).toUInt32).toInt32) &&& (255 : Int32))).length) (((own_sv (((p2.toUInt32 >>> ((24 : Int32) &&& 31).toUInt32).toInt32) &&& (255 : Int32))).map (fun c => c.toInt8.toInt32)).map Value.int) (.int (0 : Int32)) := V_r42.ext E46
  have Zs66 : n0 ≤ h46.size := Nat.le_trans Zs44 E46.1
  have KC66 : Keep h0 h46 [] := KC44.ext E46
  have E_b46 : Exa Z h46 b46 "com/example/leasehold/leasehold/LeaseRequest" := A46
  have F_holder_b46 : Fld Z h46 b46 "com/example/leasehold/leasehold/LeaseRequest" "holder" "Ljava/lang/String;" .null := D46 (Or.inr (hw _ (List.mem_of_getElem? (i := 95) rfl))) (ty := (.object "java/lang/String")) (by decide)
  have F_actor_b46 : Fld Z h46 b46 "com/example/leasehold/leasehold/LeaseRequest" "actor" "Ljava/lang/String;" .null := D46 (Or.inr (hw _ (List.mem_of_getElem? (i := 103) rfl))) (ty := (.object "java/lang/String")) (by decide)
  have F_intent_b46 : Fld Z h46 b46 "com/example/leasehold/leasehold/LeaseRequest" "intent" "Ljava/lang/String;" .null := D46 (Or.inr (hw _ (List.mem_of_getElem? (i := 106) rfl))) (ty := (.object "java/lang/String")) (by decide)
  have F_intentVersion_b46 : Fld Z h46 b46 "com/example/leasehold/leasehold/LeaseRequest" "intentVersion" "Ljava/lang/String;" .null := D46 (Or.inr (hw _ (List.mem_of_getElem? (i := 109) rfl))) (ty := (.object "java/lang/String")) (by decide)
  have F_hostId_b46 : Fld Z h46 b46 "com/example/leasehold/leasehold/LeaseRequest" "hostId" "Ljava/lang/String;" .null := D46 (Or.inr (hw _ (List.mem_of_getElem? (i := 112) rfl))) (ty := (.object "java/lang/String")) (by decide)
  have F_pid_b46 : Fld Z h46 b46 "com/example/leasehold/leasehold/LeaseRequest" "pid" "J" (.long (0 : Int64)) := D46 (Or.inr (hw _ (List.mem_of_getElem? (i := 114) rfl))) (ty := .long) (by decide)
  have F_ttlSeconds_b46 : Fld Z h46 b46 "com/example/leasehold/leasehold/LeaseRequest" "ttlSeconds" "J" (.long (0 : Int64)) := D46 (Or.inr (hw _ (List.mem_of_getElem? (i := 116) rfl))) (ty := .long) (by decide)
  have Sn67 := Safe.ext E46 CH43.1 (Safe.new (Nat.le_of_eq g46.symm))
  have pre68 : ∀ tgt, Steps p.tables e below (T46.setTop (mkF m 118 #[.val (.int p1), .val (.int p2), .val (.long p3), .second, .val (.long p4), .second, .val (.long p5), .second, .val (.long p6), .second, .val (.long (if (1 : Int64) < p5 then p5 else (1 : Int64))), .second, .val (.long (if (1 : Int64) < p6 then p6 else (1 : Int64))), .second, .val (.ref r7), .val (.ref r12), .val (.ref r17), .val (.ref r22), .val (.ref r27), .val (.ref r32), .val (.ref r37), .val (.ref r42), .unset, .unset, .unset] [(.ref b46), (.ref b46)])) tgt → Steps p.tables e below (s₁.setTop (entryFrame m #[(.int p1), (.int p2), (.long p3), (.long p4), (.long p5), (.long p6)] maxLocals)) tgt := by
    intro tgt kk
    refine pre45 tgt ?_
    refine st46 _ ?_
    show Steps p.tables e below (T46.setTop (mkF m 117 #[.val (.int p1), .val (.int p2), .val (.long p3), .second, .val (.long p4), .second, .val (.long p5), .second, .val (.long p6), .second, .val (.long (if (1 : Int64) < p5 then p5 else (1 : Int64))), .second, .val (.long (if (1 : Int64) < p6 then p6 else (1 : Int64))), .second, .val (.ref r7), .val (.ref r12), .val (.ref r17), .val (.ref r22), .val (.ref r27), .val (.ref r32), .val (.ref r37), .val (.ref r42), .unset, .unset, .unset] [(.ref b46)])) _
    refine XS.dup X46.here hx rfl (hb hby at_117) rfl rfl ?_
    show Steps p.tables e below (T46.setTop (mkF m 118 #[.val (.int p1), .val (.int p2), .val (.long p3), .second, .val (.long p4), .second, .val (.long p5), .second, .val (.long p6), .second, .val (.long (if (1 : Int64) < p5 then p5 else (1 : Int64))), .second, .val (.long (if (1 : Int64) < p6 then p6 else (1 : Int64))), .second, .val (.ref r7), .val (.ref r12), .val (.ref r17), .val (.ref r22), .val (.ref r27), .val (.ref r32), .val (.ref r37), .val (.ref r42), .unset, .unset, .unset] [(.ref b46), (.ref b46)])) _
    exact kk
  have hwS : ∀ d ∈ Bundle.stringAtoms, d.before a0 Z = true := fun d hd => hw d ((by decide +kernel : ∀ d ∈ Bundle.stringAtoms, d ∈ tables_1) d hd)
  obtain ⟨lit69, T69, h69, k69, lb69, lk69, X69, e69, E69, hS69, hkl69, hZ, hown, lE69, lC69, lV69, lA69, lta69, ltb69, CL69, -, lsf69, st69⟩ := ldcCH (s := s) (vm0 := s.vm) X46 hx hZ hown (hw _ (List.mem_of_getElem? (i := 37) rfl)) hwS e46 (k0 := 0) ((State.WarmedH.refl s).since 0) (Nat.zero_le _) hEL (List.mem_of_getElem? (i := 0) rfl) CH65.1 (vs := [(.int (112 : Int32))]) (z := (1 : Int32)) ⟨by decide +kernel, by rfl⟩ (by decide) rfl (g := (mkF m 118 #[.val (.int p1), .val (.int p2), .val (.long p3), .second, .val (.long p4), .second, .val (.long p5), .second, .val (.long p6), .second, .val (.long (if (1 : Int64) < p5 then p5 else (1 : Int64))), .second, .val (.long (if (1 : Int64) < p6 then p6 else (1 : Int64))), .second, .val (.ref r7), .val (.ref r12), .val (.ref r17), .val (.ref r22), .val (.ref r27), .val (.ref r32), .val (.ref r37), .val (.ref r42), .unset, .unset, .unset] [(.ref b46), (.ref b46)])) rfl (hb hby at_118) (n := 4) (by decide +kernel) (by decide) (by decide) (by decide)
  have ltS70_0 := E_b46.lt
  have CH70 : CHr Z own_EL s.vm h0 T69.vm h69 := CH65.trans CL69
  have Sf70_ltS70_0 := CL69.safe ltS70_0 Sn67
  have S_CS : Sta Z h69 "java/lang/String" "COMPACT_STRINGS" "Z" (.int z0) := S_CS.ext E69
  have S_A : Sta Z h69 "java/lang/CharacterDataLatin1" "A" "[I" (.ref aA) := S_A.ext E69
  have S_I : Sta Z h69 "java/lang/CharacterDataLatin1" "instance" "Ljava/lang/CharacterDataLatin1;" (.ref aI) := S_I.ext E69
  have E_I : Exa Z h69 aI "java/lang/CharacterDataLatin1" := E_I.ext E69
  have E_r7 : Exa Z h69 r7 "java/lang/String" := E_r7.ext E69
  have Fv_r7 : Fld Z h69 r7 "java/lang/String" "value" "[B" (.ref t7) := Fv_r7.ext E69
  have Fc_r7 : Fld Z h69 r7 "java/lang/String" "coder" "B" (.int (0 : Int32)) := Fc_r7.ext E69
  have V_r7 : Arv Z h69 t7 kk7 .byte (Int32.ofNat (own_sv (p1 &&& (255 : Int32))).length) (((own_sv (p1 &&& (255 : Int32))).map (fun c => c.toInt8.toInt32)).map Value.int) (.int (0 : Int32)) := V_r7.ext E69
  have E_r12 : Exa Z h69 r12 "java/lang/String" := E_r12.ext E69
  have Fv_r12 : Fld Z h69 r12 "java/lang/String" "value" "[B" (.ref t12) := Fv_r12.ext E69
  have Fc_r12 : Fld Z h69 r12 "java/lang/String" "coder" "B" (.int (0 : Int32)) := Fc_r12.ext E69
  have V_r12 : Arv Z h69 t12 kk12 .byte (Int32.ofNat (own_sv (((p1.toUInt32 >>> ((8 : Int32) &&& 31).toUInt32).toInt32) &&& (255 : Int32))).length) (((own_sv (((p1.toUInt32 >>> ((8 : Int32) &&& 31).toUInt32).toInt32) &&& (255 : Int32))).map (fun c => c.toInt8.toInt32)).map Value.int) (.int (0 : Int32)) := V_r12.ext E69
  have E_r17 : Exa Z h69 r17 "java/lang/String" := E_r17.ext E69
  have Fv_r17 : Fld Z h69 r17 "java/lang/String" "value" "[B" (.ref t17) := Fv_r17.ext E69
  have Fc_r17 : Fld Z h69 r17 "java/lang/String" "coder" "B" (.int (0 : Int32)) := Fc_r17.ext E69
  have V_r17 : Arv Z h69 t17 kk17 .byte (Int32.ofNat (own_sv (((p1.toUInt32 >>> ((16 : Int32) &&& 31).toUInt32).toInt32) &&& (255 : Int32))).length) (((own_sv (((p1.toUInt32 >>> ((16 : Int32) &&& 31).toUInt32).toInt32) &&& (255 : Int32))).map (fun c => c.toInt8.toInt32)).map Value.int) (.int (0 : Int32)) := V_r17.ext E69
  have E_r22 : Exa Z h69 r22 "java/lang/String" := E_r22.ext E69
  have Fv_r22 : Fld Z h69 r22 "java/lang/String" "value" "[B" (.ref t22) := Fv_r22.ext E69
  have Fc_r22 : Fld Z h69 r22 "java/lang/String" "coder" "B" (.int (0 : Int32)) := Fc_r22.ext E69
  have V_r22 : Arv Z h69 t22 kk22 .byte (Int32.ofNat (own_sv (((p1.toUInt32 >>> ((24 : Int32) &&& 31).toUInt32).toInt32) &&& (255 : Int32))).length) (((own_sv (((p1.toUInt32 >>> ((24 : Int32) &&& 31).toUInt32).toInt32) &&& (255 : Int32))).map (fun c => c.toInt8.toInt32)).map Value.int) (.int (0 : Int32)) := V_r22.ext E69
  have E_r27 : Exa Z h69 r27 "java/lang/String" := E_r27.ext E69
  have Fv_r27 : Fld Z h69 r27 "java/lang/String" "value" "[B" (.ref t27) := Fv_r27.ext E69
  have Fc_r27 : Fld Z h69 r27 "java/lang/String" "coder" "B" (.int (0 : Int32)) := Fc_r27.ext E69
  have V_r27 : Arv Z h69 t27 kk27 .byte (Int32.ofNat (own_sv (p2 &&& (255 : Int32))).length) (((own_sv (p2 &&& (255 : Int32))).map (fun c => c.toInt8.toInt32)).map Value.int) (.int (0 : Int32)) := V_r27.ext E69
  have E_r32 : Exa Z h69 r32 "java/lang/String" := E_r32.ext E69
  have Fv_r32 : Fld Z h69 r32 "java/lang/String" "value" "[B" (.ref t32) := Fv_r32.ext E69
  have Fc_r32 : Fld Z h69 r32 "java/lang/String" "coder" "B" (.int (0 : Int32)) := Fc_r32.ext E69
  have V_r32 : Arv Z h69 t32 kk32 .byte (Int32.ofNat (own_sv (((p2.toUInt32 >>> ((8 : Int32) &&& 31).toUInt32).toInt32) &&& (255 : Int32))).length) (((own_sv (((p2.toUInt32 >>> ((8 : Int32) &&& 31).toUInt32).toInt32) &&& (255 : Int32))).map (fun c => c.toInt8.toInt32)).map Value.int) (.int (0 : Int32)) := V_r32.ext E69
  have E_r37 : Exa Z h69 r37 "java/lang/String" := E_r37.ext E69
  have Fv_r37 : Fld Z h69 r37 "java/lang/String" "value" "[B" (.ref t37) := Fv_r37.ext E69
  have Fc_r37 : Fld Z h69 r37 "java/lang/String" "coder" "B" (.int (0 : Int32)) := Fc_r37.ext E69
  have V_r37 : Arv Z h69 t37 kk37 .byte (Int32.ofNat (own_sv (((p2.toUInt32 >>> ((16 : Int32) &&& 31).toUInt32).toInt32) &&& (255 : Int32))).length) (((own_sv (((p2.toUInt32 >>> ((16 : Int32) &&& 31).toUInt32).toInt32) &&& (255 : Int32))).map (fun c => c.toInt8.toInt32)).map Value.int) (.int (0 : Int32)) := V_r37.ext E69
  have E_r42 : Exa Z h69 r42 "java/lang/String" := E_r42.ext E69
  have Fv_r42 : Fld Z h69 r42 "java/lang/String" "value" "[B" (.ref t42) := Fv_r42.ext E69
  have Fc_r42 : Fld Z h69 r42 "java/lang/String" "coder" "B" (.int (0 : Int32)) := Fc_r42.ext E69
  have V_r42 : Arv Z h69 t42 kk42 .byte (Int32.ofNat (own_sv (((p2.toUInt32 >>> ((24 : Int32) &&& 31).toUInt32).toInt32) &&& (255 : Int32))).length) (((own_sv (((p2.toUInt32 >>> ((24 : Int32) &&& 31).toUInt32).toInt32) &&& (255 : Int32))).map (fun c => c.toInt8.toInt32)).map Value.int) (.int (0 : Int32)) := V_r42.ext E69
  have E_b46 : Exa Z h69 b46 "com/example/leasehold/leasehold/LeaseRequest" := E_b46.ext E69
  have F_holder_b46 : Fld Z h69 b46 "com/example/leasehold/leasehold/LeaseRequest" "holder" "Ljava/lang/String;" .null := F_holder_b46.ext E69
  have F_actor_b46 : Fld Z h69 b46 "com/example/leasehold/leasehold/LeaseRequest" "actor" "Ljava/lang/String;" .null := F_actor_b46.ext E69
  have F_intent_b46 : Fld Z h69 b46 "com/example/leasehold/leasehold/LeaseRequest" "intent" "Ljava/lang/String;" .null := F_intent_b46.ext E69
  have F_intentVersion_b46 : Fld Z h69 b46 "com/example/leasehold/leasehold/LeaseRequest" "intentVersion" "Ljava/lang/String;" .null := F_intentVersion_b46.ext E69
  have F_hostId_b46 : Fld Z h69 b46 "com/example/leasehold/leasehold/LeaseRequest" "hostId" "Ljava/lang/String;" .null := F_hostId_b46.ext E69
  have F_pid_b46 : Fld Z h69 b46 "com/example/leasehold/leasehold/LeaseRequest" "pid" "J" (.long (0 : Int64)) := F_pid_b46.ext E69
  have F_ttlSeconds_b46 : Fld Z h69 b46 "com/example/leasehold/leasehold/LeaseRequest" "ttlSeconds" "J" (.long (0 : Int64)) := F_ttlSeconds_b46.ext E69
  have Zs71 : n0 ≤ h69.size := Nat.le_trans Zs66 E69.1
  have KC71 : Keep h0 h69 [] := KC66.ext E69
  have E_lit69 : Exa Z h69 lit69 "java/lang/String" := lE69
  have Fc_lit69 : Fld Z h69 lit69 "java/lang/String" "coder" "B" (.int (0 : Int32)) := lC69
  have Fv_lit69 : Fld Z h69 lit69 "java/lang/String" "value" "[B" (.ref lb69) := lV69
  have V_lit69 : Arv Z h69 lb69 lk69 .byte (1 : Int32) ((([(112 : Int32)] : List Int32).map (fun c => c.toInt8.toInt32)).map Value.int) (.int (0 : Int32)) := lA69
  have nel69_Sf70_ltS70_0 : b46 ≠ lit69 ∧ b46 ≠ lb69 := lsf69 b46 Sf70_ltS70_0
  have pre72 : ∀ tgt, Steps p.tables e below (T69.setTop (mkF m 131 #[.val (.int p1), .val (.int p2), .val (.long p3), .second, .val (.long p4), .second, .val (.long p5), .second, .val (.long p6), .second, .val (.long (if (1 : Int64) < p5 then p5 else (1 : Int64))), .second, .val (.long (if (1 : Int64) < p6 then p6 else (1 : Int64))), .second, .val (.ref r7), .val (.ref r12), .val (.ref r17), .val (.ref r22), .val (.ref r27), .val (.ref r32), .val (.ref r37), .val (.ref r42), .unset, .unset, .unset] [(.long (if (1 : Int64) < p5 then p5 else (1 : Int64))), (.long p3), (.ref r22), (.ref r17), (.ref r12), (.ref r7), (.ref lit69), (.ref b46), (.ref b46)])) tgt → Steps p.tables e below (s₁.setTop (entryFrame m #[(.int p1), (.int p2), (.long p3), (.long p4), (.long p5), (.long p6)] maxLocals)) tgt := by
    intro tgt kk
    refine pre68 tgt ?_
    refine st69 _ ?_
    show Steps p.tables e below (T69.setTop (mkF m 120 #[.val (.int p1), .val (.int p2), .val (.long p3), .second, .val (.long p4), .second, .val (.long p5), .second, .val (.long p6), .second, .val (.long (if (1 : Int64) < p5 then p5 else (1 : Int64))), .second, .val (.long (if (1 : Int64) < p6 then p6 else (1 : Int64))), .second, .val (.ref r7), .val (.ref r12), .val (.ref r17), .val (.ref r22), .val (.ref r27), .val (.ref r32), .val (.ref r37), .val (.ref r42), .unset, .unset, .unset] [(.ref lit69), (.ref b46), (.ref b46)])) _
    refine XS.aload X69.here hx rfl (hb hby at_120) rfl rfl ?_
    show Steps p.tables e below (T69.setTop (mkF m 122 #[.val (.int p1), .val (.int p2), .val (.long p3), .second, .val (.long p4), .second, .val (.long p5), .second, .val (.long p6), .second, .val (.long (if (1 : Int64) < p5 then p5 else (1 : Int64))), .second, .val (.long (if (1 : Int64) < p6 then p6 else (1 : Int64))), .second, .val (.ref r7), .val (.ref r12), .val (.ref r17), .val (.ref r22), .val (.ref r27), .val (.ref r32), .val (.ref r37), .val (.ref r42), .unset, .unset, .unset] [(.ref r7), (.ref lit69), (.ref b46), (.ref b46)])) _
    refine XS.aload X69.here hx rfl (hb hby at_122) rfl rfl ?_
    show Steps p.tables e below (T69.setTop (mkF m 124 #[.val (.int p1), .val (.int p2), .val (.long p3), .second, .val (.long p4), .second, .val (.long p5), .second, .val (.long p6), .second, .val (.long (if (1 : Int64) < p5 then p5 else (1 : Int64))), .second, .val (.long (if (1 : Int64) < p6 then p6 else (1 : Int64))), .second, .val (.ref r7), .val (.ref r12), .val (.ref r17), .val (.ref r22), .val (.ref r27), .val (.ref r32), .val (.ref r37), .val (.ref r42), .unset, .unset, .unset] [(.ref r12), (.ref r7), (.ref lit69), (.ref b46), (.ref b46)])) _
    refine XS.aload X69.here hx rfl (hb hby at_124) rfl rfl ?_
    show Steps p.tables e below (T69.setTop (mkF m 126 #[.val (.int p1), .val (.int p2), .val (.long p3), .second, .val (.long p4), .second, .val (.long p5), .second, .val (.long p6), .second, .val (.long (if (1 : Int64) < p5 then p5 else (1 : Int64))), .second, .val (.long (if (1 : Int64) < p6 then p6 else (1 : Int64))), .second, .val (.ref r7), .val (.ref r12), .val (.ref r17), .val (.ref r22), .val (.ref r27), .val (.ref r32), .val (.ref r37), .val (.ref r42), .unset, .unset, .unset] [(.ref r17), (.ref r12), (.ref r7), (.ref lit69), (.ref b46), (.ref b46)])) _
    refine XS.aload X69.here hx rfl (hb hby at_126) rfl rfl ?_
    show Steps p.tables e below (T69.setTop (mkF m 128 #[.val (.int p1), .val (.int p2), .val (.long p3), .second, .val (.long p4), .second, .val (.long p5), .second, .val (.long p6), .second, .val (.long (if (1 : Int64) < p5 then p5 else (1 : Int64))), .second, .val (.long (if (1 : Int64) < p6 then p6 else (1 : Int64))), .second, .val (.ref r7), .val (.ref r12), .val (.ref r17), .val (.ref r22), .val (.ref r27), .val (.ref r32), .val (.ref r37), .val (.ref r42), .unset, .unset, .unset] [(.ref r22), (.ref r17), (.ref r12), (.ref r7), (.ref lit69), (.ref b46), (.ref b46)])) _
    refine XS.lloadN X69.here hx rfl (hb hby at_128) rfl ?_
    show Steps p.tables e below (T69.setTop (mkF m 129 #[.val (.int p1), .val (.int p2), .val (.long p3), .second, .val (.long p4), .second, .val (.long p5), .second, .val (.long p6), .second, .val (.long (if (1 : Int64) < p5 then p5 else (1 : Int64))), .second, .val (.long (if (1 : Int64) < p6 then p6 else (1 : Int64))), .second, .val (.ref r7), .val (.ref r12), .val (.ref r17), .val (.ref r22), .val (.ref r27), .val (.ref r32), .val (.ref r37), .val (.ref r42), .unset, .unset, .unset] [(.long p3), (.ref r22), (.ref r17), (.ref r12), (.ref r7), (.ref lit69), (.ref b46), (.ref b46)])) _
    refine XS.lload X69.here hx rfl (hb hby at_129) rfl ?_
    show Steps p.tables e below (T69.setTop (mkF m 131 #[.val (.int p1), .val (.int p2), .val (.long p3), .second, .val (.long p4), .second, .val (.long p5), .second, .val (.long p6), .second, .val (.long (if (1 : Int64) < p5 then p5 else (1 : Int64))), .second, .val (.long (if (1 : Int64) < p6 then p6 else (1 : Int64))), .second, .val (.ref r7), .val (.ref r12), .val (.ref r17), .val (.ref r22), .val (.ref r27), .val (.ref r32), .val (.ref r37), .val (.ref r42), .unset, .unset, .unset] [(.long (if (1 : Int64) < p5 then p5 else (1 : Int64))), (.long p3), (.ref r22), (.ref r17), (.ref r12), (.ref r7), (.ref lit69), (.ref b46), (.ref b46)])) _
    exact kk
  obtain ⟨_, _, ⟨T73, L73, k73, n73⟩, -, X73, hSi73, hgi73, ⟨Lc73, hQ73, l73, y73, z73, CL73⟩, st73⟩ := X69.specialBackS hx (y := (⟨"com/example/leasehold/leasehold/LeaseRequest", "<init>", "(Ljava/lang/String;Ljava/lang/String;Ljava/lang/String;Ljava/lang/String;Ljava/lang/String;JJ)V"⟩ : MethodName)) rfl hown (mvT hZ (hw _ (List.mem_of_getElem? (i := 40) rfl))) (mvT hZ (hw _ (List.mem_of_getElem? (i := 41) rfl))) (mvT hZ (hw _ (List.mem_of_getElem? (i := 42) rfl))) (by decide) (backOfSH (s := s) (vm0 := T69.vm) (W := 1) (rmC l Z a0 hw [] b46 lit69 lb69 lk69 (112 : Int32) z0 aI aA clA r7 r12 r17 r22 (p3) ((if (1 : Int64) < p5 then p5 else (1 : Int64))) h69 n0 Zs71 E_b46 F_holder_b46 F_actor_b46 F_intent_b46 F_intentVersion_b46 F_hostId_b46 F_pid_b46 F_ttlSeconds_b46 S_CS E_lit69 Fv_lit69 Fc_lit69 V_lit69 S_A S_I E_I (own_tab_keep KC71 Tb) (by decide) hn112 hz E_r7 E_r12 E_r17 E_r22 gn64 (own_max p5)) hZ (hw _ (List.mem_of_getElem? (i := 42) rfl)) (hw _ (List.mem_of_getElem? (i := 36) rfl)) (by decide) (by decide) hEL CH70.1) (g := (mkF m 131 #[.val (.int p1), .val (.int p2), .val (.long p3), .second, .val (.long p4), .second, .val (.long p5), .second, .val (.long p6), .second, .val (.long (if (1 : Int64) < p5 then p5 else (1 : Int64))), .second, .val (.long (if (1 : Int64) < p6 then p6 else (1 : Int64))), .second, .val (.ref r7), .val (.ref r12), .val (.ref r17), .val (.ref r22), .val (.ref r27), .val (.ref r32), .val (.ref r37), .val (.ref r42), .unset, .unset, .unset] [(.long (if (1 : Int64) < p5 then p5 else (1 : Int64))), (.long p3), (.ref r22), (.ref r17), (.ref r12), (.ref r7), (.ref lit69), (.ref b46), (.ref b46)])) rfl (by rw [hml]; rfl) (Steps.refl _) (a := b46) (argsL := [(.ref lit69), (.ref r7), (.ref r12), (.ref r17), (.ref r22), (.long p3), (.long (if (1 : Int64) < p5 then p5 else (1 : Int64)))]) (rest := [(.ref b46)]) (lenOf pd__Ljava_lang_String_Ljava_lang_String_Ljava_lang_String_Ljava_lang_String_Ljava_lang_String_JJ_V rfl) rfl (by show 2 * 0 + _ ≤ _; exact Nat.le_of_eq rfl) (hb hby at_131) (fun _ _ => ⟨rfl, e69, (by decide : 27 + 8 ≤ _), (by decide : 79 + 416 ≤ _)⟩)
  dsimp only [Pt.U, Pt.locs, Pt.cells, Pt.slots] at X73 l73 y73 z73 st73 hQ73 hSi73 hgi73 CL73
  subst l73 y73 z73
  obtain ⟨rfl, N73q, K73, Qf73_0, Qf73_1, Qf73_2, Qf73_3, Qf73_4, Qf73_5, Qf73_6⟩ := hQ73
  have N73 := Fr.app N42 N73q
  have hS73 := foldS (s := s) hS69 (by rw [e69]; exact hkl69) hSi73 hgi73
  have hZ : Z.Warmed39 (s.setVm T73.vm).vm := State.Warmed39.trans hZ hSi73.1
  have hown : (s.setVm T73.vm).vm.findClass "com/example/leasehold/leasehold/LeaseRequestHasTermsOfPinLaw" = some m.cls := by rw [show (s.setVm T73.vm).vm = T73.vm from rfl, hSi73.1.alike.findClass]; exact hown
  have ltS74_0 := E_b46.lt
  have CH74 : CHr Z own_EL s.vm h0 T73.vm T73.heap := CH70.trans CL73
  have Sf74_ltS74_0 := CL73.safe ltS74_0 Sf70_ltS70_0
  have pl76 := own_plain_Exa E_b46
  have S_CS : Sta Z T73.heap "java/lang/String" "COMPACT_STRINGS" "Z" (.int z0) := own_sta_keep S_CS K73 (allS pl76 all0)
  have S_A : Sta Z T73.heap "java/lang/CharacterDataLatin1" "A" "[I" (.ref aA) := own_sta_keep S_A K73 (allS pl76 all0)
  have S_I : Sta Z T73.heap "java/lang/CharacterDataLatin1" "instance" "Ljava/lang/CharacterDataLatin1;" (.ref aI) := own_sta_keep S_I K73 (allS pl76 all0)
  have E_I : Exa Z T73.heap aI "java/lang/CharacterDataLatin1" := E_I.keep K73
  have E_r7 : Exa Z T73.heap r7 "java/lang/String" := E_r7.keep K73
  have Fv_r7 : Fld Z T73.heap r7 "java/lang/String" "value" "[B" (.ref t7) := Fv_r7.keep K73 (ninS ne48 nin0)
  have Fc_r7 : Fld Z T73.heap r7 "java/lang/String" "coder" "B" (.int (0 : Int32)) := Fc_r7.keep K73 (ninS ne48 nin0)
  have V_r7 : Arv Z T73.heap t7 kk7 .byte (Int32.ofNat (own_sv (p1 &&& (255 : Int32))).length) (((own_sv (p1 &&& (255 : Int32))).map (fun c => c.toInt8.toInt32)).map Value.int) (.int (0 : Int32)) := V_r7.keep K73 (ninS ne49 nin0)
  have E_r12 : Exa Z T73.heap r12 "java/lang/String" := E_r12.keep K73
  have Fv_r12 : Fld Z T73.heap r12 "java/lang/String" "value" "[B" (.ref t12) := Fv_r12.keep K73 (ninS ne50 nin0)
  have Fc_r12 : Fld Z T73.heap r12 "java/lang/String" "coder" "B" (.int (0 : Int32)) := Fc_r12.keep K73 (ninS ne50 nin0)
  have V_r12 : Arv Z T73.heap t12 kk12 .byte (Int32.ofNat (own_sv (((p1.toUInt32 >>> ((8 : Int32) &&& 31).toUInt32).toInt32) &&& (255 : Int32))).length) (((own_sv (((p1.toUInt32 >>> ((8 : Int32) &&& 31).toUInt32).toInt32) &&& (255 : Int32))).map (fun c => c.toInt8.toInt32)).map Value.int) (.int (0 : Int32)) := V_r12.keep K73 (ninS ne51 nin0)
  have E_r17 : Exa Z T73.heap r17 "java/lang/String" := E_r17.keep K73
  have Fv_r17 : Fld Z T73.heap r17 "java/lang/String" "value" "[B" (.ref t17) := Fv_r17.keep K73 (ninS ne52 nin0)
  have Fc_r17 : Fld Z T73.heap r17 "java/lang/String" "coder" "B" (.int (0 : Int32)) := Fc_r17.keep K73 (ninS ne52 nin0)
  have V_r17 : Arv Z T73.heap t17 kk17 .byte (Int32.ofNat (own_sv (((p1.toUInt32 >>> ((16 : Int32) &&& 31).toUInt32).toInt32) &&& (255 : Int32))).length) (((own_sv (((p1.toUInt32 >>> ((16 : Int32) &&& 31).toUInt32).toInt32) &&& (255 : Int32))).map (fun c => c.toInt8.toInt32)).map Value.int) (.int (0 : Int32)) := V_r17.keep K73 (ninS ne53 nin0)
  have E_r22 : Exa Z T73.heap r22 "java/lang/String" := E_r22.keep K73
  have Fv_r22 : Fld Z T73.heap r22 "java/lang/String" "value" "[B" (.ref t22) := Fv_r22.keep K73 (ninS ne54 nin0)
  have Fc_r22 : Fld Z T73.heap r22 "java/lang/String" "coder" "B" (.int (0 : Int32)) := Fc_r22.keep K73 (ninS ne54 nin0)
  have V_r22 : Arv Z T73.heap t22 kk22 .byte (Int32.ofNat (own_sv (((p1.toUInt32 >>> ((24 : Int32) &&& 31).toUInt32).toInt32) &&& (255 : Int32))).length) (((own_sv (((p1.toUInt32 >>> ((24 : Int32) &&& 31).toUInt32).toInt32) &&& (255 : Int32))).map (fun c => c.toInt8.toInt32)).map Value.int) (.int (0 : Int32)) := V_r22.keep K73 (ninS ne55 nin0)
  have E_r27 : Exa Z T73.heap r27 "java/lang/String" := E_r27.keep K73
  have Fv_r27 : Fld Z T73.heap r27 "java/lang/String" "value" "[B" (.ref t27) := Fv_r27.keep K73 (ninS ne56 nin0)
  have Fc_r27 : Fld Z T73.heap r27 "java/lang/String" "coder" "B" (.int (0 : Int32)) := Fc_r27.keep K73 (ninS ne56 nin0)
  have V_r27 : Arv Z T73.heap t27 kk27 .byte (Int32.ofNat (own_sv (p2 &&& (255 : Int32))).length) (((own_sv (p2 &&& (255 : Int32))).map (fun c => c.toInt8.toInt32)).map Value.int) (.int (0 : Int32)) := V_r27.keep K73 (ninS ne57 nin0)
  have E_r32 : Exa Z T73.heap r32 "java/lang/String" := E_r32.keep K73
  have Fv_r32 : Fld Z T73.heap r32 "java/lang/String" "value" "[B" (.ref t32) := Fv_r32.keep K73 (ninS ne58 nin0)
  have Fc_r32 : Fld Z T73.heap r32 "java/lang/String" "coder" "B" (.int (0 : Int32)) := Fc_r32.keep K73 (ninS ne58 nin0)
  have V_r32 : Arv Z T73.heap t32 kk32 .byte (Int32.ofNat (own_sv (((p2.toUInt32 >>> ((8 : Int32) &&& 31).toUInt32).toInt32) &&& (255 : Int32))).length) (((own_sv (((p2.toUInt32 >>> ((8 : Int32) &&& 31).toUInt32).toInt32) &&& (255 : Int32))).map (fun c => c.toInt8.toInt32)).map Value.int) (.int (0 : Int32)) := V_r32.keep K73 (ninS ne59 nin0)
  have E_r37 : Exa Z T73.heap r37 "java/lang/String" := E_r37.keep K73
  have Fv_r37 : Fld Z T73.heap r37 "java/lang/String" "value" "[B" (.ref t37) := Fv_r37.keep K73 (ninS ne60 nin0)
  have Fc_r37 : Fld Z T73.heap r37 "java/lang/String" "coder" "B" (.int (0 : Int32)) := Fc_r37.keep K73 (ninS ne60 nin0)
  have V_r37 : Arv Z T73.heap t37 kk37 .byte (Int32.ofNat (own_sv (((p2.toUInt32 >>> ((16 : Int32) &&& 31).toUInt32).toInt32) &&& (255 : Int32))).length) (((own_sv (((p2.toUInt32 >>> ((16 : Int32) &&& 31).toUInt32).toInt32) &&& (255 : Int32))).map (fun c => c.toInt8.toInt32)).map Value.int) (.int (0 : Int32)) := V_r37.keep K73 (ninS ne61 nin0)
  have E_r42 : Exa Z T73.heap r42 "java/lang/String" := E_r42.keep K73
  have Fv_r42 : Fld Z T73.heap r42 "java/lang/String" "value" "[B" (.ref t42) := Fv_r42.keep K73 (ninS ne62 nin0)
  have Fc_r42 : Fld Z T73.heap r42 "java/lang/String" "coder" "B" (.int (0 : Int32)) := Fc_r42.keep K73 (ninS ne62 nin0)
  have V_r42 : Arv Z T73.heap t42 kk42 .byte (Int32.ofNat (own_sv (((p2.toUInt32 >>> ((24 : Int32) &&& 31).toUInt32).toInt32) &&& (255 : Int32))).length) (((own_sv (((p2.toUInt32 >>> ((24 : Int32) &&& 31).toUInt32).toInt32) &&& (255 : Int32))).map (fun c => c.toInt8.toInt32)).map Value.int) (.int (0 : Int32)) := V_r42.keep K73 (ninS ne63 nin0)
  have E_b46 : Exa Z T73.heap b46 "com/example/leasehold/leasehold/LeaseRequest" := E_b46.keep K73
  have Zs75 : n0 ≤ T73.heap.size := Nat.le_trans Zs71 K73.1
  have hk75 : k69 ≤ T73.heap.size := Nat.le_trans hkl69 K73.1
  have KC75 : Keep h0 T73.heap [] := KC71.trans K73 (allS (Or.inr sz64) all0)
  have F_holder_b46 := Qf73_0
  have F_actor_b46 := Qf73_1
  have F_intent_b46 := Qf73_2
  have F_intentVersion_b46 := Qf73_3
  have F_hostId_b46 := Qf73_4
  have F_pid_b46 := Qf73_5
  have F_ttlSeconds_b46 := Qf73_6
  have pre77 : ∀ tgt, Steps p.tables e below (T73.setTop (mkF m 136 #[.val (.int p1), .val (.int p2), .val (.long p3), .second, .val (.long p4), .second, .val (.long p5), .second, .val (.long p6), .second, .val (.long (if (1 : Int64) < p5 then p5 else (1 : Int64))), .second, .val (.long (if (1 : Int64) < p6 then p6 else (1 : Int64))), .second, .val (.ref r7), .val (.ref r12), .val (.ref r17), .val (.ref r22), .val (.ref r27), .val (.ref r32), .val (.ref r37), .val (.ref r42), .val (.ref b46), .unset, .unset] [])) tgt → Steps p.tables e below (s₁.setTop (entryFrame m #[(.int p1), (.int p2), (.long p3), (.long p4), (.long p5), (.long p6)] maxLocals)) tgt := by
    intro tgt kk
    refine pre72 tgt ?_
    refine st73.trans ?_
    show Steps p.tables e below (T73.setTop (mkF m 134 #[.val (.int p1), .val (.int p2), .val (.long p3), .second, .val (.long p4), .second, .val (.long p5), .second, .val (.long p6), .second, .val (.long (if (1 : Int64) < p5 then p5 else (1 : Int64))), .second, .val (.long (if (1 : Int64) < p6 then p6 else (1 : Int64))), .second, .val (.ref r7), .val (.ref r12), .val (.ref r17), .val (.ref r22), .val (.ref r27), .val (.ref r32), .val (.ref r37), .val (.ref r42), .unset, .unset, .unset] [(.ref b46)])) _
    refine XS.astore X73.here hx rfl (hb hby at_134) rfl rfl (l' := #[.val (.int p1), .val (.int p2), .val (.long p3), .second, .val (.long p4), .second, .val (.long p5), .second, .val (.long p6), .second, .val (.long (if (1 : Int64) < p5 then p5 else (1 : Int64))), .second, .val (.long (if (1 : Int64) < p6 then p6 else (1 : Int64))), .second, .val (.ref r7), .val (.ref r12), .val (.ref r17), .val (.ref r22), .val (.ref r27), .val (.ref r32), .val (.ref r37), .val (.ref r42), .val (.ref b46), .unset, .unset]) rfl ?_
    show Steps p.tables e below (T73.setTop (mkF m 136 #[.val (.int p1), .val (.int p2), .val (.long p3), .second, .val (.long p4), .second, .val (.long p5), .second, .val (.long p6), .second, .val (.long (if (1 : Int64) < p5 then p5 else (1 : Int64))), .second, .val (.long (if (1 : Int64) < p6 then p6 else (1 : Int64))), .second, .val (.ref r7), .val (.ref r12), .val (.ref r17), .val (.ref r22), .val (.ref r27), .val (.ref r32), .val (.ref r37), .val (.ref r42), .val (.ref b46), .unset, .unset] [])) _
    exact kk
  obtain ⟨T78, h78, X78, e78, E78, A78, D78, -, st78⟩ := newO X73 hx hZ hown (hw _ (List.mem_of_getElem? (i := 34) rfl)) (hw _ (List.mem_of_getElem? (i := 35) rfl)) (hw _ (List.mem_of_getElem? (i := 36) rfl)) rfl (g := (mkF m 136 #[.val (.int p1), .val (.int p2), .val (.long p3), .second, .val (.long p4), .second, .val (.long p5), .second, .val (.long p6), .second, .val (.long (if (1 : Int64) < p5 then p5 else (1 : Int64))), .second, .val (.long (if (1 : Int64) < p6 then p6 else (1 : Int64))), .second, .val (.ref r7), .val (.ref r12), .val (.ref r17), .val (.ref r22), .val (.ref r27), .val (.ref r32), .val (.ref r37), .val (.ref r42), .val (.ref b46), .unset, .unset] [])) rfl (hb hby at_136) (by decide) (by decide)
  obtain ⟨b78, g78⟩ : ∃ z, z = T73.heap.size := ⟨_, rfl⟩
  rw [← g78] at A78 D78 st78
  have ne79 : aI ≠ b78 := Nat.ne_of_lt (Nat.lt_of_lt_of_le E_I.lt (Nat.le_of_eq g78.symm))
  have ne80 : r7 ≠ b78 := Nat.ne_of_lt (Nat.lt_of_lt_of_le E_r7.lt (Nat.le_of_eq g78.symm))
  have ne81 : t7 ≠ b78 := Nat.ne_of_lt (Nat.lt_of_lt_of_le V_r7.lt (Nat.le_of_eq g78.symm))
  have ne82 : r12 ≠ b78 := Nat.ne_of_lt (Nat.lt_of_lt_of_le E_r12.lt (Nat.le_of_eq g78.symm))
  have ne83 : t12 ≠ b78 := Nat.ne_of_lt (Nat.lt_of_lt_of_le V_r12.lt (Nat.le_of_eq g78.symm))
  have ne84 : r17 ≠ b78 := Nat.ne_of_lt (Nat.lt_of_lt_of_le E_r17.lt (Nat.le_of_eq g78.symm))
  have ne85 : t17 ≠ b78 := Nat.ne_of_lt (Nat.lt_of_lt_of_le V_r17.lt (Nat.le_of_eq g78.symm))
  have ne86 : r22 ≠ b78 := Nat.ne_of_lt (Nat.lt_of_lt_of_le E_r22.lt (Nat.le_of_eq g78.symm))
  have ne87 : t22 ≠ b78 := Nat.ne_of_lt (Nat.lt_of_lt_of_le V_r22.lt (Nat.le_of_eq g78.symm))
  have ne88 : r27 ≠ b78 := Nat.ne_of_lt (Nat.lt_of_lt_of_le E_r27.lt (Nat.le_of_eq g78.symm))
  have ne89 : t27 ≠ b78 := Nat.ne_of_lt (Nat.lt_of_lt_of_le V_r27.lt (Nat.le_of_eq g78.symm))
  have ne90 : r32 ≠ b78 := Nat.ne_of_lt (Nat.lt_of_lt_of_le E_r32.lt (Nat.le_of_eq g78.symm))
  have ne91 : t32 ≠ b78 := Nat.ne_of_lt (Nat.lt_of_lt_of_le V_r32.lt (Nat.le_of_eq g78.symm))
  have ne92 : r37 ≠ b78 := Nat.ne_of_lt (Nat.lt_of_lt_of_le E_r37.lt (Nat.le_of_eq g78.symm))
  have ne93 : t37 ≠ b78 := Nat.ne_of_lt (Nat.lt_of_lt_of_le V_r37.lt (Nat.le_of_eq g78.symm))
  have ne94 : r42 ≠ b78 := Nat.ne_of_lt (Nat.lt_of_lt_of_le E_r42.lt (Nat.le_of_eq g78.symm))
  have ne95 : t42 ≠ b78 := Nat.ne_of_lt (Nat.lt_of_lt_of_le V_r42.lt (Nat.le_of_eq g78.symm))
  have ne96 : b46 ≠ b78 := Nat.ne_of_lt (Nat.lt_of_lt_of_le E_b46.lt (Nat.le_of_eq g78.symm))
  have gn97 : n0 ≤ b78 := Nat.le_trans Zs75 (Nat.le_of_eq g78.symm)
  have sz97 : h0.size ≤ b78 := Nat.le_trans KC75.1 (Nat.le_of_eq g78.symm)
  have ltS98_0 := E_b46.lt
  have CA98 : CHr Z own_EL T73.vm T73.heap T73.vm h78 := CHr.ext E78 CH74.1
  have CH98 : CHr Z own_EL s.vm h0 T73.vm h78 := CH74.trans CA98
  have Sf98_ltS98_0 := CA98.safe ltS98_0 Sf74_ltS74_0
  have S_CS : Sta Z h78 "java/lang/String" "COMPACT_STRINGS" "Z" (.int z0) := S_CS.ext E78
  have S_A : Sta Z h78 "java/lang/CharacterDataLatin1" "A" "[I" (.ref aA) := S_A.ext E78
  have S_I : Sta Z h78 "java/lang/CharacterDataLatin1" "instance" "Ljava/lang/CharacterDataLatin1;" (.ref aI) := S_I.ext E78
  have E_I : Exa Z h78 aI "java/lang/CharacterDataLatin1" := E_I.ext E78
  have E_r7 : Exa Z h78 r7 "java/lang/String" := E_r7.ext E78
  have Fv_r7 : Fld Z h78 r7 "java/lang/String" "value" "[B" (.ref t7) := Fv_r7.ext E78
  have Fc_r7 : Fld Z h78 r7 "java/lang/String" "coder" "B" (.int (0 : Int32)) := Fc_r7.ext E78
  have V_r7 : Arv Z h78 t7 kk7 .byte (Int32.ofNat (own_sv (p1 &&& (255 : Int32))).length) (((own_sv (p1 &&& (255 : Int32))).map (fun c => c.toInt8.toInt32)).map Value.int) (.int (0 : Int32)) := V_r7.ext E78
  have E_r12 : Exa Z h78 r12 "java/lang/String" := E_r12.ext E78
  have Fv_r12 : Fld Z h78 r12 "java/lang/String" "value" "[B" (.ref t12) := Fv_r12.ext E78
  have Fc_r12 : Fld Z h78 r12 "java/lang/String" "coder" "B" (.int (0 : Int32)) := Fc_r12.ext E78
  have V_r12 : Arv Z h78 t12 kk12 .byte (Int32.ofNat (own_sv (((p1.toUInt32 >>> ((8 : Int32) &&& 31).toUInt32).toInt32) &&& (255 : Int32))).length) (((own_sv (((p1.toUInt32 >>> ((8 : Int32) &&& 31).toUInt32).toInt32) &&& (255 : Int32))).map (fun c => c.toInt8.toInt32)).map Value.int) (.int (0 : Int32)) := V_r12.ext E78
  have E_r17 : Exa Z h78 r17 "java/lang/String" := E_r17.ext E78
  have Fv_r17 : Fld Z h78 r17 "java/lang/String" "value" "[B" (.ref t17) := Fv_r17.ext E78
  have Fc_r17 : Fld Z h78 r17 "java/lang/String" "coder" "B" (.int (0 : Int32)) := Fc_r17.ext E78
  have V_r17 : Arv Z h78 t17 kk17 .byte (Int32.ofNat (own_sv (((p1.toUInt32 >>> ((16 : Int32) &&& 31).toUInt32).toInt32) &&& (255 : Int32))).length) (((own_sv (((p1.toUInt32 >>> ((16 : Int32) &&& 31).toUInt32).toInt32) &&& (255 : Int32))).map (fun c => c.toInt8.toInt32)).map Value.int) (.int (0 : Int32)) := V_r17.ext E78
  have E_r22 : Exa Z h78 r22 "java/lang/String" := E_r22.ext E78
  have Fv_r22 : Fld Z h78 r22 "java/lang/String" "value" "[B" (.ref t22) := Fv_r22.ext E78
  have Fc_r22 : Fld Z h78 r22 "java/lang/String" "coder" "B" (.int (0 : Int32)) := Fc_r22.ext E78
  have V_r22 : Arv Z h78 t22 kk22 .byte (Int32.ofNat (own_sv (((p1.toUInt32 >>> ((24 : Int32) &&& 31).toUInt32).toInt32) &&& (255 : Int32))).length) (((own_sv (((p1.toUInt32 >>> ((24 : Int32) &&& 31).toUInt32).toInt32) &&& (255 : Int32))).map (fun c => c.toInt8.toInt32)).map Value.int) (.int (0 : Int32)) := V_r22.ext E78
  have E_r27 : Exa Z h78 r27 "java/lang/String" := E_r27.ext E78
  have Fv_r27 : Fld Z h78 r27 "java/lang/String" "value" "[B" (.ref t27) := Fv_r27.ext E78
  have Fc_r27 : Fld Z h78 r27 "java/lang/String" "coder" "B" (.int (0 : Int32)) := Fc_r27.ext E78
  have V_r27 : Arv Z h78 t27 kk27 .byte (Int32.ofNat (own_sv (p2 &&& (255 : Int32))).length) (((own_sv (p2 &&& (255 : Int32))).map (fun c => c.toInt8.toInt32)).map Value.int) (.int (0 : Int32)) := V_r27.ext E78
  have E_r32 : Exa Z h78 r32 "java/lang/String" := E_r32.ext E78
  have Fv_r32 : Fld Z h78 r32 "java/lang/String" "value" "[B" (.ref t32) := Fv_r32.ext E78
  have Fc_r32 : Fld Z h78 r32 "java/lang/String" "coder" "B" (.int (0 : Int32)) := Fc_r32.ext E78
  have V_r32 : Arv Z h78 t32 kk32 .byte (Int32.ofNat (own_sv (((p2.toUInt32 >>> ((8 : Int32) &&& 31).toUInt32).toInt32) &&& (255 : Int32))).length) (((own_sv (((p2.toUInt32 >>> ((8 : Int32) &&& 31).toUInt32).toInt32) &&& (255 : Int32))).map (fun c => c.toInt8.toInt32)).map Value.int) (.int (0 : Int32)) := V_r32.ext E78
  have E_r37 : Exa Z h78 r37 "java/lang/String" := E_r37.ext E78
  have Fv_r37 : Fld Z h78 r37 "java/lang/String" "value" "[B" (.ref t37) := Fv_r37.ext E78
  have Fc_r37 : Fld Z h78 r37 "java/lang/String" "coder" "B" (.int (0 : Int32)) := Fc_r37.ext E78
  have V_r37 : Arv Z h78 t37 kk37 .byte (Int32.ofNat (own_sv (((p2.toUInt32 >>> ((16 : Int32) &&& 31).toUInt32).toInt32) &&& (255 : Int32))).length) (((own_sv (((p2.toUInt32 >>> ((16 : Int32) &&& 31).toUInt32).toInt32) &&& (255 : Int32))).map (fun c => c.toInt8.toInt32)).map Value.int) (.int (0 : Int32)) := V_r37.ext E78
  have E_r42 : Exa Z h78 r42 "java/lang/String" := E_r42.ext E78
  have Fv_r42 : Fld Z h78 r42 "java/lang/String" "value" "[B" (.ref t42) := Fv_r42.ext E78
  have Fc_r42 : Fld Z h78 r42 "java/lang/String" "coder" "B" (.int (0 : Int32)) := Fc_r42.ext E78
  have V_r42 : Arv Z h78 t42 kk42 .byte (Int32.ofNat (own_sv (((p2.toUInt32 >>> ((24 : Int32) &&& 31).toUInt32).toInt32) &&& (255 : Int32))).length) (((own_sv (((p2.toUInt32 >>> ((24 : Int32) &&& 31).toUInt32).toInt32) &&& (255 : Int32))).map (fun c => c.toInt8.toInt32)).map Value.int) (.int (0 : Int32)) := V_r42.ext E78
  have E_b46 : Exa Z h78 b46 "com/example/leasehold/leasehold/LeaseRequest" := E_b46.ext E78
  have F_holder_b46 : Fld Z h78 b46 "com/example/leasehold/leasehold/LeaseRequest" "holder" "Ljava/lang/String;" (.ref lit69) := F_holder_b46.ext E78
  have F_actor_b46 : Fld Z h78 b46 "com/example/leasehold/leasehold/LeaseRequest" "actor" "Ljava/lang/String;" (.ref r7) := F_actor_b46.ext E78
  have F_intent_b46 : Fld Z h78 b46 "com/example/leasehold/leasehold/LeaseRequest" "intent" "Ljava/lang/String;" (.ref r12) := F_intent_b46.ext E78
  have F_intentVersion_b46 : Fld Z h78 b46 "com/example/leasehold/leasehold/LeaseRequest" "intentVersion" "Ljava/lang/String;" (.ref r17) := F_intentVersion_b46.ext E78
  have F_hostId_b46 : Fld Z h78 b46 "com/example/leasehold/leasehold/LeaseRequest" "hostId" "Ljava/lang/String;" (.ref r22) := F_hostId_b46.ext E78
  have F_pid_b46 : Fld Z h78 b46 "com/example/leasehold/leasehold/LeaseRequest" "pid" "J" (.long p3) := F_pid_b46.ext E78
  have F_ttlSeconds_b46 : Fld Z h78 b46 "com/example/leasehold/leasehold/LeaseRequest" "ttlSeconds" "J" (.long (if (1 : Int64) < p5 then p5 else (1 : Int64))) := F_ttlSeconds_b46.ext E78
  have Zs99 : n0 ≤ h78.size := Nat.le_trans Zs75 E78.1
  have hk99 : T73.heap.size ≤ h78.size := Nat.le_trans (Nat.le_refl _) E78.1
  have KC99 : Keep h0 h78 [] := KC75.ext E78
  have E_b78 : Exa Z h78 b78 "com/example/leasehold/leasehold/LeaseRequest" := A78
  have F_holder_b78 : Fld Z h78 b78 "com/example/leasehold/leasehold/LeaseRequest" "holder" "Ljava/lang/String;" .null := D78 (Or.inr (hw _ (List.mem_of_getElem? (i := 95) rfl))) (ty := (.object "java/lang/String")) (by decide)
  have F_actor_b78 : Fld Z h78 b78 "com/example/leasehold/leasehold/LeaseRequest" "actor" "Ljava/lang/String;" .null := D78 (Or.inr (hw _ (List.mem_of_getElem? (i := 103) rfl))) (ty := (.object "java/lang/String")) (by decide)
  have F_intent_b78 : Fld Z h78 b78 "com/example/leasehold/leasehold/LeaseRequest" "intent" "Ljava/lang/String;" .null := D78 (Or.inr (hw _ (List.mem_of_getElem? (i := 106) rfl))) (ty := (.object "java/lang/String")) (by decide)
  have F_intentVersion_b78 : Fld Z h78 b78 "com/example/leasehold/leasehold/LeaseRequest" "intentVersion" "Ljava/lang/String;" .null := D78 (Or.inr (hw _ (List.mem_of_getElem? (i := 109) rfl))) (ty := (.object "java/lang/String")) (by decide)
  have F_hostId_b78 : Fld Z h78 b78 "com/example/leasehold/leasehold/LeaseRequest" "hostId" "Ljava/lang/String;" .null := D78 (Or.inr (hw _ (List.mem_of_getElem? (i := 112) rfl))) (ty := (.object "java/lang/String")) (by decide)
  have F_pid_b78 : Fld Z h78 b78 "com/example/leasehold/leasehold/LeaseRequest" "pid" "J" (.long (0 : Int64)) := D78 (Or.inr (hw _ (List.mem_of_getElem? (i := 114) rfl))) (ty := .long) (by decide)
  have F_ttlSeconds_b78 : Fld Z h78 b78 "com/example/leasehold/leasehold/LeaseRequest" "ttlSeconds" "J" (.long (0 : Int64)) := D78 (Or.inr (hw _ (List.mem_of_getElem? (i := 116) rfl))) (ty := .long) (by decide)
  have Sn100 := Safe.ext E78 CH74.1 (Safe.new (Nat.le_of_eq g78.symm))
  have pre101 : ∀ tgt, Steps p.tables e below (T78.setTop (mkF m 140 #[.val (.int p1), .val (.int p2), .val (.long p3), .second, .val (.long p4), .second, .val (.long p5), .second, .val (.long p6), .second, .val (.long (if (1 : Int64) < p5 then p5 else (1 : Int64))), .second, .val (.long (if (1 : Int64) < p6 then p6 else (1 : Int64))), .second, .val (.ref r7), .val (.ref r12), .val (.ref r17), .val (.ref r22), .val (.ref r27), .val (.ref r32), .val (.ref r37), .val (.ref r42), .val (.ref b46), .unset, .unset] [(.ref b78), (.ref b78)])) tgt → Steps p.tables e below (s₁.setTop (entryFrame m #[(.int p1), (.int p2), (.long p3), (.long p4), (.long p5), (.long p6)] maxLocals)) tgt := by
    intro tgt kk
    refine pre77 tgt ?_
    refine st78 _ ?_
    show Steps p.tables e below (T78.setTop (mkF m 139 #[.val (.int p1), .val (.int p2), .val (.long p3), .second, .val (.long p4), .second, .val (.long p5), .second, .val (.long p6), .second, .val (.long (if (1 : Int64) < p5 then p5 else (1 : Int64))), .second, .val (.long (if (1 : Int64) < p6 then p6 else (1 : Int64))), .second, .val (.ref r7), .val (.ref r12), .val (.ref r17), .val (.ref r22), .val (.ref r27), .val (.ref r32), .val (.ref r37), .val (.ref r42), .val (.ref b46), .unset, .unset] [(.ref b78)])) _
    refine XS.dup X78.here hx rfl (hb hby at_139) rfl rfl ?_
    show Steps p.tables e below (T78.setTop (mkF m 140 #[.val (.int p1), .val (.int p2), .val (.long p3), .second, .val (.long p4), .second, .val (.long p5), .second, .val (.long p6), .second, .val (.long (if (1 : Int64) < p5 then p5 else (1 : Int64))), .second, .val (.long (if (1 : Int64) < p6 then p6 else (1 : Int64))), .second, .val (.ref r7), .val (.ref r12), .val (.ref r17), .val (.ref r22), .val (.ref r27), .val (.ref r32), .val (.ref r37), .val (.ref r42), .val (.ref b46), .unset, .unset] [(.ref b78), (.ref b78)])) _
    exact kk
  have hwS : ∀ d ∈ Bundle.stringAtoms, d.before a0 Z = true := fun d hd => hw d ((by decide +kernel : ∀ d ∈ Bundle.stringAtoms, d ∈ tables_1) d hd)
  obtain ⟨lit102, T102, h102, k102, lb102, lk102, X102, e102, E102, hS102, hkl102, hZ, hown, lE102, lC102, lV102, lA102, lta102, ltb102, CL102, -, lsf102, st102⟩ := ldcCH (s := s) (vm0 := T73.vm) X78 hx hZ hown (hw _ (List.mem_of_getElem? (i := 117) rfl)) hwS e78 (k0 := T73.heap.size) hS73 hk99 hEL (List.mem_of_getElem? (i := 1) rfl) CH98.1 (vs := [(.int (113 : Int32))]) (z := (1 : Int32)) ⟨by decide +kernel, by rfl⟩ (by decide) rfl (g := (mkF m 140 #[.val (.int p1), .val (.int p2), .val (.long p3), .second, .val (.long p4), .second, .val (.long p5), .second, .val (.long p6), .second, .val (.long (if (1 : Int64) < p5 then p5 else (1 : Int64))), .second, .val (.long (if (1 : Int64) < p6 then p6 else (1 : Int64))), .second, .val (.ref r7), .val (.ref r12), .val (.ref r17), .val (.ref r22), .val (.ref r27), .val (.ref r32), .val (.ref r37), .val (.ref r42), .val (.ref b46), .unset, .unset] [(.ref b78), (.ref b78)])) rfl (hb hby at_140) (n := 4) (by decide +kernel) (by decide) (by decide) (by decide)
  have ltS103_0 := E_b46.lt
  have ltS103_1 := E_b78.lt
  have CH103 : CHr Z own_EL s.vm h0 T102.vm h102 := CH98.trans CL102
  have Sf103_ltS103_0 := CL102.safe ltS103_0 Sf98_ltS98_0
  have Sf103_ltS103_1 := CL102.safe ltS103_1 Sn100
  have S_CS : Sta Z h102 "java/lang/String" "COMPACT_STRINGS" "Z" (.int z0) := S_CS.ext E102
  have S_A : Sta Z h102 "java/lang/CharacterDataLatin1" "A" "[I" (.ref aA) := S_A.ext E102
  have S_I : Sta Z h102 "java/lang/CharacterDataLatin1" "instance" "Ljava/lang/CharacterDataLatin1;" (.ref aI) := S_I.ext E102
  have E_I : Exa Z h102 aI "java/lang/CharacterDataLatin1" := E_I.ext E102
  have E_r7 : Exa Z h102 r7 "java/lang/String" := E_r7.ext E102
  have Fv_r7 : Fld Z h102 r7 "java/lang/String" "value" "[B" (.ref t7) := Fv_r7.ext E102
  have Fc_r7 : Fld Z h102 r7 "java/lang/String" "coder" "B" (.int (0 : Int32)) := Fc_r7.ext E102
  have V_r7 : Arv Z h102 t7 kk7 .byte (Int32.ofNat (own_sv (p1 &&& (255 : Int32))).length) (((own_sv (p1 &&& (255 : Int32))).map (fun c => c.toInt8.toInt32)).map Value.int) (.int (0 : Int32)) := V_r7.ext E102
  have E_r12 : Exa Z h102 r12 "java/lang/String" := E_r12.ext E102
  have Fv_r12 : Fld Z h102 r12 "java/lang/String" "value" "[B" (.ref t12) := Fv_r12.ext E102
  have Fc_r12 : Fld Z h102 r12 "java/lang/String" "coder" "B" (.int (0 : Int32)) := Fc_r12.ext E102
  have V_r12 : Arv Z h102 t12 kk12 .byte (Int32.ofNat (own_sv (((p1.toUInt32 >>> ((8 : Int32) &&& 31).toUInt32).toInt32) &&& (255 : Int32))).length) (((own_sv (((p1.toUInt32 >>> ((8 : Int32) &&& 31).toUInt32).toInt32) &&& (255 : Int32))).map (fun c => c.toInt8.toInt32)).map Value.int) (.int (0 : Int32)) := V_r12.ext E102
  have E_r17 : Exa Z h102 r17 "java/lang/String" := E_r17.ext E102
  have Fv_r17 : Fld Z h102 r17 "java/lang/String" "value" "[B" (.ref t17) := Fv_r17.ext E102
  have Fc_r17 : Fld Z h102 r17 "java/lang/String" "coder" "B" (.int (0 : Int32)) := Fc_r17.ext E102
  have V_r17 : Arv Z h102 t17 kk17 .byte (Int32.ofNat (own_sv (((p1.toUInt32 >>> ((16 : Int32) &&& 31).toUInt32).toInt32) &&& (255 : Int32))).length) (((own_sv (((p1.toUInt32 >>> ((16 : Int32) &&& 31).toUInt32).toInt32) &&& (255 : Int32))).map (fun c => c.toInt8.toInt32)).map Value.int) (.int (0 : Int32)) := V_r17.ext E102
  have E_r22 : Exa Z h102 r22 "java/lang/String" := E_r22.ext E102
  have Fv_r22 : Fld Z h102 r22 "java/lang/String" "value" "[B" (.ref t22) := Fv_r22.ext E102
  have Fc_r22 : Fld Z h102 r22 "java/lang/String" "coder" "B" (.int (0 : Int32)) := Fc_r22.ext E102
  have V_r22 : Arv Z h102 t22 kk22 .byte (Int32.ofNat (own_sv (((p1.toUInt32 >>> ((24 : Int32) &&& 31).toUInt32).toInt32) &&& (255 : Int32))).length) (((own_sv (((p1.toUInt32 >>> ((24 : Int32) &&& 31).toUInt32).toInt32) &&& (255 : Int32))).map (fun c => c.toInt8.toInt32)).map Value.int) (.int (0 : Int32)) := V_r22.ext E102
  have E_r27 : Exa Z h102 r27 "java/lang/String" := E_r27.ext E102
  have Fv_r27 : Fld Z h102 r27 "java/lang/String" "value" "[B" (.ref t27) := Fv_r27.ext E102
  have Fc_r27 : Fld Z h102 r27 "java/lang/String" "coder" "B" (.int (0 : Int32)) := Fc_r27.ext E102
  have V_r27 : Arv Z h102 t27 kk27 .byte (Int32.ofNat (own_sv (p2 &&& (255 : Int32))).length) (((own_sv (p2 &&& (255 : Int32))).map (fun c => c.toInt8.toInt32)).map Value.int) (.int (0 : Int32)) := V_r27.ext E102
  have E_r32 : Exa Z h102 r32 "java/lang/String" := E_r32.ext E102
  have Fv_r32 : Fld Z h102 r32 "java/lang/String" "value" "[B" (.ref t32) := Fv_r32.ext E102
  have Fc_r32 : Fld Z h102 r32 "java/lang/String" "coder" "B" (.int (0 : Int32)) := Fc_r32.ext E102
  have V_r32 : Arv Z h102 t32 kk32 .byte (Int32.ofNat (own_sv (((p2.toUInt32 >>> ((8 : Int32) &&& 31).toUInt32).toInt32) &&& (255 : Int32))).length) (((own_sv (((p2.toUInt32 >>> ((8 : Int32) &&& 31).toUInt32).toInt32) &&& (255 : Int32))).map (fun c => c.toInt8.toInt32)).map Value.int) (.int (0 : Int32)) := V_r32.ext E102
  have E_r37 : Exa Z h102 r37 "java/lang/String" := E_r37.ext E102
  have Fv_r37 : Fld Z h102 r37 "java/lang/String" "value" "[B" (.ref t37) := Fv_r37.ext E102
  have Fc_r37 : Fld Z h102 r37 "java/lang/String" "coder" "B" (.int (0 : Int32)) := Fc_r37.ext E102
  have V_r37 : Arv Z h102 t37 kk37 .byte (Int32.ofNat (own_sv (((p2.toUInt32 >>> ((16 : Int32) &&& 31).toUInt32).toInt32) &&& (255 : Int32))).length) (((own_sv (((p2.toUInt32 >>> ((16 : Int32) &&& 31).toUInt32).toInt32) &&& (255 : Int32))).map (fun c => c.toInt8.toInt32)).map Value.int) (.int (0 : Int32)) := V_r37.ext E102
  have E_r42 : Exa Z h102 r42 "java/lang/String" := E_r42.ext E102
  have Fv_r42 : Fld Z h102 r42 "java/lang/String" "value" "[B" (.ref t42) := Fv_r42.ext E102
  have Fc_r42 : Fld Z h102 r42 "java/lang/String" "coder" "B" (.int (0 : Int32)) := Fc_r42.ext E102
  have V_r42 : Arv Z h102 t42 kk42 .byte (Int32.ofNat (own_sv (((p2.toUInt32 >>> ((24 : Int32) &&& 31).toUInt32).toInt32) &&& (255 : Int32))).length) (((own_sv (((p2.toUInt32 >>> ((24 : Int32) &&& 31).toUInt32).toInt32) &&& (255 : Int32))).map (fun c => c.toInt8.toInt32)).map Value.int) (.int (0 : Int32)) := V_r42.ext E102
  have E_b46 : Exa Z h102 b46 "com/example/leasehold/leasehold/LeaseRequest" := E_b46.ext E102
  have F_holder_b46 : Fld Z h102 b46 "com/example/leasehold/leasehold/LeaseRequest" "holder" "Ljava/lang/String;" (.ref lit69) := F_holder_b46.ext E102
  have F_actor_b46 : Fld Z h102 b46 "com/example/leasehold/leasehold/LeaseRequest" "actor" "Ljava/lang/String;" (.ref r7) := F_actor_b46.ext E102
  have F_intent_b46 : Fld Z h102 b46 "com/example/leasehold/leasehold/LeaseRequest" "intent" "Ljava/lang/String;" (.ref r12) := F_intent_b46.ext E102
  have F_intentVersion_b46 : Fld Z h102 b46 "com/example/leasehold/leasehold/LeaseRequest" "intentVersion" "Ljava/lang/String;" (.ref r17) := F_intentVersion_b46.ext E102
  have F_hostId_b46 : Fld Z h102 b46 "com/example/leasehold/leasehold/LeaseRequest" "hostId" "Ljava/lang/String;" (.ref r22) := F_hostId_b46.ext E102
  have F_pid_b46 : Fld Z h102 b46 "com/example/leasehold/leasehold/LeaseRequest" "pid" "J" (.long p3) := F_pid_b46.ext E102
  have F_ttlSeconds_b46 : Fld Z h102 b46 "com/example/leasehold/leasehold/LeaseRequest" "ttlSeconds" "J" (.long (if (1 : Int64) < p5 then p5 else (1 : Int64))) := F_ttlSeconds_b46.ext E102
  have E_b78 : Exa Z h102 b78 "com/example/leasehold/leasehold/LeaseRequest" := E_b78.ext E102
  have F_holder_b78 : Fld Z h102 b78 "com/example/leasehold/leasehold/LeaseRequest" "holder" "Ljava/lang/String;" .null := F_holder_b78.ext E102
  have F_actor_b78 : Fld Z h102 b78 "com/example/leasehold/leasehold/LeaseRequest" "actor" "Ljava/lang/String;" .null := F_actor_b78.ext E102
  have F_intent_b78 : Fld Z h102 b78 "com/example/leasehold/leasehold/LeaseRequest" "intent" "Ljava/lang/String;" .null := F_intent_b78.ext E102
  have F_intentVersion_b78 : Fld Z h102 b78 "com/example/leasehold/leasehold/LeaseRequest" "intentVersion" "Ljava/lang/String;" .null := F_intentVersion_b78.ext E102
  have F_hostId_b78 : Fld Z h102 b78 "com/example/leasehold/leasehold/LeaseRequest" "hostId" "Ljava/lang/String;" .null := F_hostId_b78.ext E102
  have F_pid_b78 : Fld Z h102 b78 "com/example/leasehold/leasehold/LeaseRequest" "pid" "J" (.long (0 : Int64)) := F_pid_b78.ext E102
  have F_ttlSeconds_b78 : Fld Z h102 b78 "com/example/leasehold/leasehold/LeaseRequest" "ttlSeconds" "J" (.long (0 : Int64)) := F_ttlSeconds_b78.ext E102
  have Zs104 : n0 ≤ h102.size := Nat.le_trans Zs99 E102.1
  have hk104 : T73.heap.size ≤ h102.size := Nat.le_trans hk99 E102.1
  have KC104 : Keep h0 h102 [] := KC99.ext E102
  have E_lit102 : Exa Z h102 lit102 "java/lang/String" := lE102
  have Fc_lit102 : Fld Z h102 lit102 "java/lang/String" "coder" "B" (.int (0 : Int32)) := lC102
  have Fv_lit102 : Fld Z h102 lit102 "java/lang/String" "value" "[B" (.ref lb102) := lV102
  have V_lit102 : Arv Z h102 lb102 lk102 .byte (1 : Int32) ((([(113 : Int32)] : List Int32).map (fun c => c.toInt8.toInt32)).map Value.int) (.int (0 : Int32)) := lA102
  have nel102_Sf103_ltS103_0 : b46 ≠ lit102 ∧ b46 ≠ lb102 := lsf102 b46 Sf103_ltS103_0
  have nel102_Sf103_ltS103_1 : b78 ≠ lit102 ∧ b78 ≠ lb102 := lsf102 b78 Sf103_ltS103_1
  have pre105 : ∀ tgt, Steps p.tables e below (T102.setTop (mkF m 154 #[.val (.int p1), .val (.int p2), .val (.long p3), .second, .val (.long p4), .second, .val (.long p5), .second, .val (.long p6), .second, .val (.long (if (1 : Int64) < p5 then p5 else (1 : Int64))), .second, .val (.long (if (1 : Int64) < p6 then p6 else (1 : Int64))), .second, .val (.ref r7), .val (.ref r12), .val (.ref r17), .val (.ref r22), .val (.ref r27), .val (.ref r32), .val (.ref r37), .val (.ref r42), .val (.ref b46), .unset, .unset] [(.long (if (1 : Int64) < p6 then p6 else (1 : Int64))), (.long p4), (.ref r42), (.ref r37), (.ref r32), (.ref r27), (.ref lit102), (.ref b78), (.ref b78)])) tgt → Steps p.tables e below (s₁.setTop (entryFrame m #[(.int p1), (.int p2), (.long p3), (.long p4), (.long p5), (.long p6)] maxLocals)) tgt := by
    intro tgt kk
    refine pre101 tgt ?_
    refine st102 _ ?_
    show Steps p.tables e below (T102.setTop (mkF m 142 #[.val (.int p1), .val (.int p2), .val (.long p3), .second, .val (.long p4), .second, .val (.long p5), .second, .val (.long p6), .second, .val (.long (if (1 : Int64) < p5 then p5 else (1 : Int64))), .second, .val (.long (if (1 : Int64) < p6 then p6 else (1 : Int64))), .second, .val (.ref r7), .val (.ref r12), .val (.ref r17), .val (.ref r22), .val (.ref r27), .val (.ref r32), .val (.ref r37), .val (.ref r42), .val (.ref b46), .unset, .unset] [(.ref lit102), (.ref b78), (.ref b78)])) _
    refine XS.aload X102.here hx rfl (hb hby at_142) rfl rfl ?_
    show Steps p.tables e below (T102.setTop (mkF m 144 #[.val (.int p1), .val (.int p2), .val (.long p3), .second, .val (.long p4), .second, .val (.long p5), .second, .val (.long p6), .second, .val (.long (if (1 : Int64) < p5 then p5 else (1 : Int64))), .second, .val (.long (if (1 : Int64) < p6 then p6 else (1 : Int64))), .second, .val (.ref r7), .val (.ref r12), .val (.ref r17), .val (.ref r22), .val (.ref r27), .val (.ref r32), .val (.ref r37), .val (.ref r42), .val (.ref b46), .unset, .unset] [(.ref r27), (.ref lit102), (.ref b78), (.ref b78)])) _
    refine XS.aload X102.here hx rfl (hb hby at_144) rfl rfl ?_
    show Steps p.tables e below (T102.setTop (mkF m 146 #[.val (.int p1), .val (.int p2), .val (.long p3), .second, .val (.long p4), .second, .val (.long p5), .second, .val (.long p6), .second, .val (.long (if (1 : Int64) < p5 then p5 else (1 : Int64))), .second, .val (.long (if (1 : Int64) < p6 then p6 else (1 : Int64))), .second, .val (.ref r7), .val (.ref r12), .val (.ref r17), .val (.ref r22), .val (.ref r27), .val (.ref r32), .val (.ref r37), .val (.ref r42), .val (.ref b46), .unset, .unset] [(.ref r32), (.ref r27), (.ref lit102), (.ref b78), (.ref b78)])) _
    refine XS.aload X102.here hx rfl (hb hby at_146) rfl rfl ?_
    show Steps p.tables e below (T102.setTop (mkF m 148 #[.val (.int p1), .val (.int p2), .val (.long p3), .second, .val (.long p4), .second, .val (.long p5), .second, .val (.long p6), .second, .val (.long (if (1 : Int64) < p5 then p5 else (1 : Int64))), .second, .val (.long (if (1 : Int64) < p6 then p6 else (1 : Int64))), .second, .val (.ref r7), .val (.ref r12), .val (.ref r17), .val (.ref r22), .val (.ref r27), .val (.ref r32), .val (.ref r37), .val (.ref r42), .val (.ref b46), .unset, .unset] [(.ref r37), (.ref r32), (.ref r27), (.ref lit102), (.ref b78), (.ref b78)])) _
    refine XS.aload X102.here hx rfl (hb hby at_148) rfl rfl ?_
    show Steps p.tables e below (T102.setTop (mkF m 150 #[.val (.int p1), .val (.int p2), .val (.long p3), .second, .val (.long p4), .second, .val (.long p5), .second, .val (.long p6), .second, .val (.long (if (1 : Int64) < p5 then p5 else (1 : Int64))), .second, .val (.long (if (1 : Int64) < p6 then p6 else (1 : Int64))), .second, .val (.ref r7), .val (.ref r12), .val (.ref r17), .val (.ref r22), .val (.ref r27), .val (.ref r32), .val (.ref r37), .val (.ref r42), .val (.ref b46), .unset, .unset] [(.ref r42), (.ref r37), (.ref r32), (.ref r27), (.ref lit102), (.ref b78), (.ref b78)])) _
    refine XS.lload X102.here hx rfl (hb hby at_150) rfl ?_
    show Steps p.tables e below (T102.setTop (mkF m 152 #[.val (.int p1), .val (.int p2), .val (.long p3), .second, .val (.long p4), .second, .val (.long p5), .second, .val (.long p6), .second, .val (.long (if (1 : Int64) < p5 then p5 else (1 : Int64))), .second, .val (.long (if (1 : Int64) < p6 then p6 else (1 : Int64))), .second, .val (.ref r7), .val (.ref r12), .val (.ref r17), .val (.ref r22), .val (.ref r27), .val (.ref r32), .val (.ref r37), .val (.ref r42), .val (.ref b46), .unset, .unset] [(.long p4), (.ref r42), (.ref r37), (.ref r32), (.ref r27), (.ref lit102), (.ref b78), (.ref b78)])) _
    refine XS.lload X102.here hx rfl (hb hby at_152) rfl ?_
    show Steps p.tables e below (T102.setTop (mkF m 154 #[.val (.int p1), .val (.int p2), .val (.long p3), .second, .val (.long p4), .second, .val (.long p5), .second, .val (.long p6), .second, .val (.long (if (1 : Int64) < p5 then p5 else (1 : Int64))), .second, .val (.long (if (1 : Int64) < p6 then p6 else (1 : Int64))), .second, .val (.ref r7), .val (.ref r12), .val (.ref r17), .val (.ref r22), .val (.ref r27), .val (.ref r32), .val (.ref r37), .val (.ref r42), .val (.ref b46), .unset, .unset] [(.long (if (1 : Int64) < p6 then p6 else (1 : Int64))), (.long p4), (.ref r42), (.ref r37), (.ref r32), (.ref r27), (.ref lit102), (.ref b78), (.ref b78)])) _
    exact kk
  obtain ⟨_, _, ⟨T106, L106, k106, n106⟩, -, X106, hSi106, hgi106, ⟨Lc106, hQ106, l106, y106, z106, CL106⟩, st106⟩ := X102.specialBackS hx (y := (⟨"com/example/leasehold/leasehold/LeaseRequest", "<init>", "(Ljava/lang/String;Ljava/lang/String;Ljava/lang/String;Ljava/lang/String;Ljava/lang/String;JJ)V"⟩ : MethodName)) rfl hown (mvT hZ (hw _ (List.mem_of_getElem? (i := 40) rfl))) (mvT hZ (hw _ (List.mem_of_getElem? (i := 41) rfl))) (mvT hZ (hw _ (List.mem_of_getElem? (i := 42) rfl))) (by decide) (backOfSH (s := s) (vm0 := T102.vm) (W := 1) (rmC l Z a0 hw [] b78 lit102 lb102 lk102 (113 : Int32) z0 aI aA clA r27 r32 r37 r42 (p4) ((if (1 : Int64) < p6 then p6 else (1 : Int64))) h102 n0 Zs104 E_b78 F_holder_b78 F_actor_b78 F_intent_b78 F_intentVersion_b78 F_hostId_b78 F_pid_b78 F_ttlSeconds_b78 S_CS E_lit102 Fv_lit102 Fc_lit102 V_lit102 S_A S_I E_I (own_tab_keep KC104 Tb) (by decide) hn113 hz E_r27 E_r32 E_r37 E_r42 gn97 (own_max p6)) hZ (hw _ (List.mem_of_getElem? (i := 42) rfl)) (hw _ (List.mem_of_getElem? (i := 36) rfl)) (by decide) (by decide) hEL CH103.1) (g := (mkF m 154 #[.val (.int p1), .val (.int p2), .val (.long p3), .second, .val (.long p4), .second, .val (.long p5), .second, .val (.long p6), .second, .val (.long (if (1 : Int64) < p5 then p5 else (1 : Int64))), .second, .val (.long (if (1 : Int64) < p6 then p6 else (1 : Int64))), .second, .val (.ref r7), .val (.ref r12), .val (.ref r17), .val (.ref r22), .val (.ref r27), .val (.ref r32), .val (.ref r37), .val (.ref r42), .val (.ref b46), .unset, .unset] [(.long (if (1 : Int64) < p6 then p6 else (1 : Int64))), (.long p4), (.ref r42), (.ref r37), (.ref r32), (.ref r27), (.ref lit102), (.ref b78), (.ref b78)])) rfl (by rw [hml]; rfl) (Steps.refl _) (a := b78) (argsL := [(.ref lit102), (.ref r27), (.ref r32), (.ref r37), (.ref r42), (.long p4), (.long (if (1 : Int64) < p6 then p6 else (1 : Int64)))]) (rest := [(.ref b78)]) (lenOf pd__Ljava_lang_String_Ljava_lang_String_Ljava_lang_String_Ljava_lang_String_Ljava_lang_String_JJ_V rfl) rfl (by show 2 * 0 + _ ≤ _; exact Nat.le_of_eq rfl) (hb hby at_154) (fun _ _ => ⟨rfl, e102, (by decide : 38 + 8 ≤ _), (by decide : 510 + 416 ≤ _)⟩)
  dsimp only [Pt.U, Pt.locs, Pt.cells, Pt.slots] at X106 l106 y106 z106 st106 hQ106 hSi106 hgi106 CL106
  subst l106 y106 z106
  obtain ⟨rfl, N106q, K106, Qf106_0, Qf106_1, Qf106_2, Qf106_3, Qf106_4, Qf106_5, Qf106_6⟩ := hQ106
  have N106 := Fr.app N73 N106q
  have hS106 := foldS (s := s) hS102 (by rw [e102]; exact hkl102) hSi106 hgi106
  have hZ : Z.Warmed39 (s.setVm T106.vm).vm := State.Warmed39.trans hZ hSi106.1
  have hown : (s.setVm T106.vm).vm.findClass "com/example/leasehold/leasehold/LeaseRequestHasTermsOfPinLaw" = some m.cls := by rw [show (s.setVm T106.vm).vm = T106.vm from rfl, hSi106.1.alike.findClass]; exact hown
  have ltS107_0 := E_b46.lt
  have ltS107_1 := E_b78.lt
  have CH107 : CHr Z own_EL s.vm h0 T106.vm T106.heap := CH103.trans CL106
  have Sf107_ltS107_0 := CL106.safe ltS107_0 Sf103_ltS103_0
  have Sf107_ltS107_1 := CL106.safe ltS107_1 Sf103_ltS103_1
  have pl109 := own_plain_Exa E_b78
  have S_CS : Sta Z T106.heap "java/lang/String" "COMPACT_STRINGS" "Z" (.int z0) := own_sta_keep S_CS K106 (allS pl109 all0)
  have S_A : Sta Z T106.heap "java/lang/CharacterDataLatin1" "A" "[I" (.ref aA) := own_sta_keep S_A K106 (allS pl109 all0)
  have S_I : Sta Z T106.heap "java/lang/CharacterDataLatin1" "instance" "Ljava/lang/CharacterDataLatin1;" (.ref aI) := own_sta_keep S_I K106 (allS pl109 all0)
  have E_I : Exa Z T106.heap aI "java/lang/CharacterDataLatin1" := E_I.keep K106
  have E_r7 : Exa Z T106.heap r7 "java/lang/String" := E_r7.keep K106
  have Fv_r7 : Fld Z T106.heap r7 "java/lang/String" "value" "[B" (.ref t7) := Fv_r7.keep K106 (ninS ne80 nin0)
  have Fc_r7 : Fld Z T106.heap r7 "java/lang/String" "coder" "B" (.int (0 : Int32)) := Fc_r7.keep K106 (ninS ne80 nin0)
  have V_r7 : Arv Z T106.heap t7 kk7 .byte (Int32.ofNat (own_sv (p1 &&& (255 : Int32))).length) (((own_sv (p1 &&& (255 : Int32))).map (fun c => c.toInt8.toInt32)).map Value.int) (.int (0 : Int32)) := V_r7.keep K106 (ninS ne81 nin0)
  have E_r12 : Exa Z T106.heap r12 "java/lang/String" := E_r12.keep K106
  have Fv_r12 : Fld Z T106.heap r12 "java/lang/String" "value" "[B" (.ref t12) := Fv_r12.keep K106 (ninS ne82 nin0)
  have Fc_r12 : Fld Z T106.heap r12 "java/lang/String" "coder" "B" (.int (0 : Int32)) := Fc_r12.keep K106 (ninS ne82 nin0)
  have V_r12 : Arv Z T106.heap t12 kk12 .byte (Int32.ofNat (own_sv (((p1.toUInt32 >>> ((8 : Int32) &&& 31).toUInt32).toInt32) &&& (255 : Int32))).length) (((own_sv (((p1.toUInt32 >>> ((8 : Int32) &&& 31).toUInt32).toInt32) &&& (255 : Int32))).map (fun c => c.toInt8.toInt32)).map Value.int) (.int (0 : Int32)) := V_r12.keep K106 (ninS ne83 nin0)
  have E_r17 : Exa Z T106.heap r17 "java/lang/String" := E_r17.keep K106
  have Fv_r17 : Fld Z T106.heap r17 "java/lang/String" "value" "[B" (.ref t17) := Fv_r17.keep K106 (ninS ne84 nin0)
  have Fc_r17 : Fld Z T106.heap r17 "java/lang/String" "coder" "B" (.int (0 : Int32)) := Fc_r17.keep K106 (ninS ne84 nin0)
  have V_r17 : Arv Z T106.heap t17 kk17 .byte (Int32.ofNat (own_sv (((p1.toUInt32 >>> ((16 : Int32) &&& 31).toUInt32).toInt32) &&& (255 : Int32))).length) (((own_sv (((p1.toUInt32 >>> ((16 : Int32) &&& 31).toUInt32).toInt32) &&& (255 : Int32))).map (fun c => c.toInt8.toInt32)).map Value.int) (.int (0 : Int32)) := V_r17.keep K106 (ninS ne85 nin0)
  have E_r22 : Exa Z T106.heap r22 "java/lang/String" := E_r22.keep K106
  have Fv_r22 : Fld Z T106.heap r22 "java/lang/String" "value" "[B" (.ref t22) := Fv_r22.keep K106 (ninS ne86 nin0)
  have Fc_r22 : Fld Z T106.heap r22 "java/lang/String" "coder" "B" (.int (0 : Int32)) := Fc_r22.keep K106 (ninS ne86 nin0)
  have V_r22 : Arv Z T106.heap t22 kk22 .byte (Int32.ofNat (own_sv (((p1.toUInt32 >>> ((24 : Int32) &&& 31).toUInt32).toInt32) &&& (255 : Int32))).length) (((own_sv (((p1.toUInt32 >>> ((24 : Int32) &&& 31).toUInt32).toInt32) &&& (255 : Int32))).map (fun c => c.toInt8.toInt32)).map Value.int) (.int (0 : Int32)) := V_r22.keep K106 (ninS ne87 nin0)
  have E_r27 : Exa Z T106.heap r27 "java/lang/String" := E_r27.keep K106
  have Fv_r27 : Fld Z T106.heap r27 "java/lang/String" "value" "[B" (.ref t27) := Fv_r27.keep K106 (ninS ne88 nin0)
  have Fc_r27 : Fld Z T106.heap r27 "java/lang/String" "coder" "B" (.int (0 : Int32)) := Fc_r27.keep K106 (ninS ne88 nin0)
  have V_r27 : Arv Z T106.heap t27 kk27 .byte (Int32.ofNat (own_sv (p2 &&& (255 : Int32))).length) (((own_sv (p2 &&& (255 : Int32))).map (fun c => c.toInt8.toInt32)).map Value.int) (.int (0 : Int32)) := V_r27.keep K106 (ninS ne89 nin0)
  have E_r32 : Exa Z T106.heap r32 "java/lang/String" := E_r32.keep K106
  have Fv_r32 : Fld Z T106.heap r32 "java/lang/String" "value" "[B" (.ref t32) := Fv_r32.keep K106 (ninS ne90 nin0)
  have Fc_r32 : Fld Z T106.heap r32 "java/lang/String" "coder" "B" (.int (0 : Int32)) := Fc_r32.keep K106 (ninS ne90 nin0)
  have V_r32 : Arv Z T106.heap t32 kk32 .byte (Int32.ofNat (own_sv (((p2.toUInt32 >>> ((8 : Int32) &&& 31).toUInt32).toInt32) &&& (255 : Int32))).length) (((own_sv (((p2.toUInt32 >>> ((8 : Int32) &&& 31).toUInt32).toInt32) &&& (255 : Int32))).map (fun c => c.toInt8.toInt32)).map Value.int) (.int (0 : Int32)) := V_r32.keep K106 (ninS ne91 nin0)
  have E_r37 : Exa Z T106.heap r37 "java/lang/String" := E_r37.keep K106
  have Fv_r37 : Fld Z T106.heap r37 "java/lang/String" "value" "[B" (.ref t37) := Fv_r37.keep K106 (ninS ne92 nin0)
  have Fc_r37 : Fld Z T106.heap r37 "java/lang/String" "coder" "B" (.int (0 : Int32)) := Fc_r37.keep K106 (ninS ne92 nin0)
  have V_r37 : Arv Z T106.heap t37 kk37 .byte (Int32.ofNat (own_sv (((p2.toUInt32 >>> ((16 : Int32) &&& 31).toUInt32).toInt32) &&& (255 : Int32))).length) (((own_sv (((p2.toUInt32 >>> ((16 : Int32) &&& 31).toUInt32).toInt32) &&& (255 : Int32))).map (fun c => c.toInt8.toInt32)).map Value.int) (.int (0 : Int32)) := V_r37.keep K106 (ninS ne93 nin0)
  have E_r42 : Exa Z T106.heap r42 "java/lang/String" := E_r42.keep K106
  have Fv_r42 : Fld Z T106.heap r42 "java/lang/String" "value" "[B" (.ref t42) := Fv_r42.keep K106 (ninS ne94 nin0)
  have Fc_r42 : Fld Z T106.heap r42 "java/lang/String" "coder" "B" (.int (0 : Int32)) := Fc_r42.keep K106 (ninS ne94 nin0)
  have V_r42 : Arv Z T106.heap t42 kk42 .byte (Int32.ofNat (own_sv (((p2.toUInt32 >>> ((24 : Int32) &&& 31).toUInt32).toInt32) &&& (255 : Int32))).length) (((own_sv (((p2.toUInt32 >>> ((24 : Int32) &&& 31).toUInt32).toInt32) &&& (255 : Int32))).map (fun c => c.toInt8.toInt32)).map Value.int) (.int (0 : Int32)) := V_r42.keep K106 (ninS ne95 nin0)
  have E_b46 : Exa Z T106.heap b46 "com/example/leasehold/leasehold/LeaseRequest" := E_b46.keep K106
  have F_holder_b46 : Fld Z T106.heap b46 "com/example/leasehold/leasehold/LeaseRequest" "holder" "Ljava/lang/String;" (.ref lit69) := F_holder_b46.keep K106 (ninS ne96 nin0)
  have F_actor_b46 : Fld Z T106.heap b46 "com/example/leasehold/leasehold/LeaseRequest" "actor" "Ljava/lang/String;" (.ref r7) := F_actor_b46.keep K106 (ninS ne96 nin0)
  have F_intent_b46 : Fld Z T106.heap b46 "com/example/leasehold/leasehold/LeaseRequest" "intent" "Ljava/lang/String;" (.ref r12) := F_intent_b46.keep K106 (ninS ne96 nin0)
  have F_intentVersion_b46 : Fld Z T106.heap b46 "com/example/leasehold/leasehold/LeaseRequest" "intentVersion" "Ljava/lang/String;" (.ref r17) := F_intentVersion_b46.keep K106 (ninS ne96 nin0)
  have F_hostId_b46 : Fld Z T106.heap b46 "com/example/leasehold/leasehold/LeaseRequest" "hostId" "Ljava/lang/String;" (.ref r22) := F_hostId_b46.keep K106 (ninS ne96 nin0)
  have F_pid_b46 : Fld Z T106.heap b46 "com/example/leasehold/leasehold/LeaseRequest" "pid" "J" (.long p3) := F_pid_b46.keep K106 (ninS ne96 nin0)
  have F_ttlSeconds_b46 : Fld Z T106.heap b46 "com/example/leasehold/leasehold/LeaseRequest" "ttlSeconds" "J" (.long (if (1 : Int64) < p5 then p5 else (1 : Int64))) := F_ttlSeconds_b46.keep K106 (ninS ne96 nin0)
  have E_b78 : Exa Z T106.heap b78 "com/example/leasehold/leasehold/LeaseRequest" := E_b78.keep K106
  have Zs108 : n0 ≤ T106.heap.size := Nat.le_trans Zs104 K106.1
  have hk108 : k102 ≤ T106.heap.size := Nat.le_trans hkl102 K106.1
  have KC108 : Keep h0 T106.heap [] := KC104.trans K106 (allS (Or.inr sz97) all0)
  have F_holder_b78 := Qf106_0
  have F_actor_b78 := Qf106_1
  have F_intent_b78 := Qf106_2
  have F_intentVersion_b78 := Qf106_3
  have F_hostId_b78 := Qf106_4
  have F_pid_b78 := Qf106_5
  have F_ttlSeconds_b78 := Qf106_6
  have pre110 : ∀ tgt, Steps p.tables e below (T106.setTop (mkF m 161 #[.val (.int p1), .val (.int p2), .val (.long p3), .second, .val (.long p4), .second, .val (.long p5), .second, .val (.long p6), .second, .val (.long (if (1 : Int64) < p5 then p5 else (1 : Int64))), .second, .val (.long (if (1 : Int64) < p6 then p6 else (1 : Int64))), .second, .val (.ref r7), .val (.ref r12), .val (.ref r17), .val (.ref r22), .val (.ref r27), .val (.ref r32), .val (.ref r37), .val (.ref r42), .val (.ref b46), .val (.ref b78), .unset] [(.int p2), (.int p1)])) tgt → Steps p.tables e below (s₁.setTop (entryFrame m #[(.int p1), (.int p2), (.long p3), (.long p4), (.long p5), (.long p6)] maxLocals)) tgt := by
    intro tgt kk
    refine pre105 tgt ?_
    refine st106.trans ?_
    show Steps p.tables e below (T106.setTop (mkF m 157 #[.val (.int p1), .val (.int p2), .val (.long p3), .second, .val (.long p4), .second, .val (.long p5), .second, .val (.long p6), .second, .val (.long (if (1 : Int64) < p5 then p5 else (1 : Int64))), .second, .val (.long (if (1 : Int64) < p6 then p6 else (1 : Int64))), .second, .val (.ref r7), .val (.ref r12), .val (.ref r17), .val (.ref r22), .val (.ref r27), .val (.ref r32), .val (.ref r37), .val (.ref r42), .val (.ref b46), .unset, .unset] [(.ref b78)])) _
    refine XS.astore X106.here hx rfl (hb hby at_157) rfl rfl (l' := #[.val (.int p1), .val (.int p2), .val (.long p3), .second, .val (.long p4), .second, .val (.long p5), .second, .val (.long p6), .second, .val (.long (if (1 : Int64) < p5 then p5 else (1 : Int64))), .second, .val (.long (if (1 : Int64) < p6 then p6 else (1 : Int64))), .second, .val (.ref r7), .val (.ref r12), .val (.ref r17), .val (.ref r22), .val (.ref r27), .val (.ref r32), .val (.ref r37), .val (.ref r42), .val (.ref b46), .val (.ref b78), .unset]) rfl ?_
    show Steps p.tables e below (T106.setTop (mkF m 159 #[.val (.int p1), .val (.int p2), .val (.long p3), .second, .val (.long p4), .second, .val (.long p5), .second, .val (.long p6), .second, .val (.long (if (1 : Int64) < p5 then p5 else (1 : Int64))), .second, .val (.long (if (1 : Int64) < p6 then p6 else (1 : Int64))), .second, .val (.ref r7), .val (.ref r12), .val (.ref r17), .val (.ref r22), .val (.ref r27), .val (.ref r32), .val (.ref r37), .val (.ref r42), .val (.ref b46), .val (.ref b78), .unset] [])) _
    refine XS.iloadN X106.here hx rfl (hb hby at_159) rfl ?_
    show Steps p.tables e below (T106.setTop (mkF m 160 #[.val (.int p1), .val (.int p2), .val (.long p3), .second, .val (.long p4), .second, .val (.long p5), .second, .val (.long p6), .second, .val (.long (if (1 : Int64) < p5 then p5 else (1 : Int64))), .second, .val (.long (if (1 : Int64) < p6 then p6 else (1 : Int64))), .second, .val (.ref r7), .val (.ref r12), .val (.ref r17), .val (.ref r22), .val (.ref r27), .val (.ref r32), .val (.ref r37), .val (.ref r42), .val (.ref b46), .val (.ref b78), .unset] [(.int p1)])) _
    refine XS.iloadN X106.here hx rfl (hb hby at_160) rfl ?_
    show Steps p.tables e below (T106.setTop (mkF m 161 #[.val (.int p1), .val (.int p2), .val (.long p3), .second, .val (.long p4), .second, .val (.long p5), .second, .val (.long p6), .second, .val (.long (if (1 : Int64) < p5 then p5 else (1 : Int64))), .second, .val (.long (if (1 : Int64) < p6 then p6 else (1 : Int64))), .second, .val (.ref r7), .val (.ref r12), .val (.ref r17), .val (.ref r22), .val (.ref r27), .val (.ref r32), .val (.ref r37), .val (.ref r42), .val (.ref b46), .val (.ref b78), .unset] [(.int p2), (.int p1)])) _
    exact kk
  obtain ⟨T116, lo116, X116, N116, e116, pre116⟩ : ∃ (T' : State) (lo : List Loc), Stand p l e room_1 (s.setVm T106.vm) m #[(.int p1), (.int p2), (.long p3), (.long p4), (.long p5), (.long p6)] below meth c T' lo 46 926 ∧ Fr n0 lo ∧ T'.heap = T106.heap ∧ ∀ tgt, Steps p.tables e below (T'.setTop (mkF m 184 #[.val (.int p1), .val (.int p2), .val (.long p3), .second, .val (.long p4), .second, .val (.long p5), .second, .val (.long p6), .second, .val (.long (if (1 : Int64) < p5 then p5 else (1 : Int64))), .second, .val (.long (if (1 : Int64) < p6 then p6 else (1 : Int64))), .second, .val (.ref r7), .val (.ref r12), .val (.ref r17), .val (.ref r22), .val (.ref r27), .val (.ref r32), .val (.ref r37), .val (.ref r42), .val (.ref b46), .val (.ref b78), .unset] [(.int (bI ((p1 = p2) ∧ ((p3 = p4) ∧ ((if (1 : Int64) < p5 then p5 else (1 : Int64)) = (if (1 : Int64) < p6 then p6 else (1 : Int64)))))))])) tgt → Steps p.tables e below (s₁.setTop (entryFrame m #[(.int p1), (.int p2), (.long p3), (.long p4), (.long p5), (.long p6)] maxLocals)) tgt := by
    by_cases hc161_111 : p1 = p2
    · skip
      have pre112 : ∀ tgt, Steps p.tables e below (T106.setTop (mkF m 168 #[.val (.int p1), .val (.int p2), .val (.long p3), .second, .val (.long p4), .second, .val (.long p5), .second, .val (.long p6), .second, .val (.long (if (1 : Int64) < p5 then p5 else (1 : Int64))), .second, .val (.long (if (1 : Int64) < p6 then p6 else (1 : Int64))), .second, .val (.ref r7), .val (.ref r12), .val (.ref r17), .val (.ref r22), .val (.ref r27), .val (.ref r32), .val (.ref r37), .val (.ref r42), .val (.ref b46), .val (.ref b78), .unset] [(.int (lcmpW p3 p4))])) tgt → Steps p.tables e below (s₁.setTop (entryFrame m #[(.int p1), (.int p2), (.long p3), (.long p4), (.long p5), (.long p6)] maxLocals)) tgt := by
        intro tgt kk
        refine pre110 tgt ?_
        refine XS.icmpNo X106.here hx rfl (hb hby at_161) rfl (XT.ii_ne_f hc161_111) ?_
        show Steps p.tables e below (T106.setTop (mkF m 164 #[.val (.int p1), .val (.int p2), .val (.long p3), .second, .val (.long p4), .second, .val (.long p5), .second, .val (.long p6), .second, .val (.long (if (1 : Int64) < p5 then p5 else (1 : Int64))), .second, .val (.long (if (1 : Int64) < p6 then p6 else (1 : Int64))), .second, .val (.ref r7), .val (.ref r12), .val (.ref r17), .val (.ref r22), .val (.ref r27), .val (.ref r32), .val (.ref r37), .val (.ref r42), .val (.ref b46), .val (.ref b78), .unset] [])) _
        refine XS.lloadN X106.here hx rfl (hb hby at_164) rfl ?_
        show Steps p.tables e below (T106.setTop (mkF m 165 #[.val (.int p1), .val (.int p2), .val (.long p3), .second, .val (.long p4), .second, .val (.long p5), .second, .val (.long p6), .second, .val (.long (if (1 : Int64) < p5 then p5 else (1 : Int64))), .second, .val (.long (if (1 : Int64) < p6 then p6 else (1 : Int64))), .second, .val (.ref r7), .val (.ref r12), .val (.ref r17), .val (.ref r22), .val (.ref r27), .val (.ref r32), .val (.ref r37), .val (.ref r42), .val (.ref b46), .val (.ref b78), .unset] [(.long p3)])) _
        refine XS.lload X106.here hx rfl (hb hby at_165) rfl ?_
        show Steps p.tables e below (T106.setTop (mkF m 167 #[.val (.int p1), .val (.int p2), .val (.long p3), .second, .val (.long p4), .second, .val (.long p5), .second, .val (.long p6), .second, .val (.long (if (1 : Int64) < p5 then p5 else (1 : Int64))), .second, .val (.long (if (1 : Int64) < p6 then p6 else (1 : Int64))), .second, .val (.ref r7), .val (.ref r12), .val (.ref r17), .val (.ref r22), .val (.ref r27), .val (.ref r32), .val (.ref r37), .val (.ref r42), .val (.ref b46), .val (.ref b78), .unset] [(.long p4), (.long p3)])) _
        refine XS.lcmp X106.here hx rfl (hb hby at_167) rfl ?_
        show Steps p.tables e below (T106.setTop (mkF m 168 #[.val (.int p1), .val (.int p2), .val (.long p3), .second, .val (.long p4), .second, .val (.long p5), .second, .val (.long p6), .second, .val (.long (if (1 : Int64) < p5 then p5 else (1 : Int64))), .second, .val (.long (if (1 : Int64) < p6 then p6 else (1 : Int64))), .second, .val (.ref r7), .val (.ref r12), .val (.ref r17), .val (.ref r22), .val (.ref r27), .val (.ref r32), .val (.ref r37), .val (.ref r42), .val (.ref b46), .val (.ref b78), .unset] [(.int (lcmpW p3 p4))])) _
        exact kk
      by_cases hc168_113 : p3 = p4
      · skip
        have pre114 : ∀ tgt, Steps p.tables e below (T106.setTop (mkF m 176 #[.val (.int p1), .val (.int p2), .val (.long p3), .second, .val (.long p4), .second, .val (.long p5), .second, .val (.long p6), .second, .val (.long (if (1 : Int64) < p5 then p5 else (1 : Int64))), .second, .val (.long (if (1 : Int64) < p6 then p6 else (1 : Int64))), .second, .val (.ref r7), .val (.ref r12), .val (.ref r17), .val (.ref r22), .val (.ref r27), .val (.ref r32), .val (.ref r37), .val (.ref r42), .val (.ref b46), .val (.ref b78), .unset] [(.int (lcmpW (if (1 : Int64) < p5 then p5 else (1 : Int64)) (if (1 : Int64) < p6 then p6 else (1 : Int64))))])) tgt → Steps p.tables e below (s₁.setTop (entryFrame m #[(.int p1), (.int p2), (.long p3), (.long p4), (.long p5), (.long p6)] maxLocals)) tgt := by
          intro tgt kk
          refine pre112 tgt ?_
          refine XS.ifNo X106.here hx rfl (hb hby at_168) rfl (XT.ll_ne_f hc168_113) ?_
          show Steps p.tables e below (T106.setTop (mkF m 171 #[.val (.int p1), .val (.int p2), .val (.long p3), .second, .val (.long p4), .second, .val (.long p5), .second, .val (.long p6), .second, .val (.long (if (1 : Int64) < p5 then p5 else (1 : Int64))), .second, .val (.long (if (1 : Int64) < p6 then p6 else (1 : Int64))), .second, .val (.ref r7), .val (.ref r12), .val (.ref r17), .val (.ref r22), .val (.ref r27), .val (.ref r32), .val (.ref r37), .val (.ref r42), .val (.ref b46), .val (.ref b78), .unset] [])) _
          refine XS.lload X106.here hx rfl (hb hby at_171) rfl ?_
          show Steps p.tables e below (T106.setTop (mkF m 173 #[.val (.int p1), .val (.int p2), .val (.long p3), .second, .val (.long p4), .second, .val (.long p5), .second, .val (.long p6), .second, .val (.long (if (1 : Int64) < p5 then p5 else (1 : Int64))), .second, .val (.long (if (1 : Int64) < p6 then p6 else (1 : Int64))), .second, .val (.ref r7), .val (.ref r12), .val (.ref r17), .val (.ref r22), .val (.ref r27), .val (.ref r32), .val (.ref r37), .val (.ref r42), .val (.ref b46), .val (.ref b78), .unset] [(.long (if (1 : Int64) < p5 then p5 else (1 : Int64)))])) _
          refine XS.lload X106.here hx rfl (hb hby at_173) rfl ?_
          show Steps p.tables e below (T106.setTop (mkF m 175 #[.val (.int p1), .val (.int p2), .val (.long p3), .second, .val (.long p4), .second, .val (.long p5), .second, .val (.long p6), .second, .val (.long (if (1 : Int64) < p5 then p5 else (1 : Int64))), .second, .val (.long (if (1 : Int64) < p6 then p6 else (1 : Int64))), .second, .val (.ref r7), .val (.ref r12), .val (.ref r17), .val (.ref r22), .val (.ref r27), .val (.ref r32), .val (.ref r37), .val (.ref r42), .val (.ref b46), .val (.ref b78), .unset] [(.long (if (1 : Int64) < p6 then p6 else (1 : Int64))), (.long (if (1 : Int64) < p5 then p5 else (1 : Int64)))])) _
          refine XS.lcmp X106.here hx rfl (hb hby at_175) rfl ?_
          show Steps p.tables e below (T106.setTop (mkF m 176 #[.val (.int p1), .val (.int p2), .val (.long p3), .second, .val (.long p4), .second, .val (.long p5), .second, .val (.long p6), .second, .val (.long (if (1 : Int64) < p5 then p5 else (1 : Int64))), .second, .val (.long (if (1 : Int64) < p6 then p6 else (1 : Int64))), .second, .val (.ref r7), .val (.ref r12), .val (.ref r17), .val (.ref r22), .val (.ref r27), .val (.ref r32), .val (.ref r37), .val (.ref r42), .val (.ref b46), .val (.ref b78), .unset] [(.int (lcmpW (if (1 : Int64) < p5 then p5 else (1 : Int64)) (if (1 : Int64) < p6 then p6 else (1 : Int64))))])) _
          exact kk
        by_cases hc176_115 : (if (1 : Int64) < p5 then p5 else (1 : Int64)) = (if (1 : Int64) < p6 then p6 else (1 : Int64))
        · skip
          refine ⟨T106, _, X106, N106, rfl, fun tgt kk => ?_⟩
          have kq117 : ((.int (bI ((p1 = p2) ∧ ((p3 = p4) ∧ ((if (1 : Int64) < p5 then p5 else (1 : Int64)) = (if (1 : Int64) < p6 then p6 else (1 : Int64))))))) : Value) = (.int (1 : Int32)) := ((congrArg Value.int (bI_iff (and_iff_right hc161_111))).trans ((congrArg Value.int (bI_iff (and_iff_right hc168_113))).trans (congrArg Value.int (bI_t hc176_115))))
          rw [kq117] at kk
          refine pre114 tgt ?_
          refine XS.ifNo X106.here hx rfl (hb hby at_176) rfl (XT.ll_ne_f hc176_115) ?_
          show Steps p.tables e below (T106.setTop (mkF m 179 #[.val (.int p1), .val (.int p2), .val (.long p3), .second, .val (.long p4), .second, .val (.long p5), .second, .val (.long p6), .second, .val (.long (if (1 : Int64) < p5 then p5 else (1 : Int64))), .second, .val (.long (if (1 : Int64) < p6 then p6 else (1 : Int64))), .second, .val (.ref r7), .val (.ref r12), .val (.ref r17), .val (.ref r22), .val (.ref r27), .val (.ref r32), .val (.ref r37), .val (.ref r42), .val (.ref b46), .val (.ref b78), .unset] [])) _
          refine XS.iconst X106.here hx rfl (hb hby at_179) ?_
          show Steps p.tables e below (T106.setTop (mkF m 180 #[.val (.int p1), .val (.int p2), .val (.long p3), .second, .val (.long p4), .second, .val (.long p5), .second, .val (.long p6), .second, .val (.long (if (1 : Int64) < p5 then p5 else (1 : Int64))), .second, .val (.long (if (1 : Int64) < p6 then p6 else (1 : Int64))), .second, .val (.ref r7), .val (.ref r12), .val (.ref r17), .val (.ref r22), .val (.ref r27), .val (.ref r32), .val (.ref r37), .val (.ref r42), .val (.ref b46), .val (.ref b78), .unset] [(.int (1 : Int32))])) _
          refine XS.goto X106.here hx rfl (pc0 := 180) (pc' := 184) rfl (hb hby at_180) (by decide) (by decide) ?_
          show Steps p.tables e below (T106.setTop (mkF m 184 #[.val (.int p1), .val (.int p2), .val (.long p3), .second, .val (.long p4), .second, .val (.long p5), .second, .val (.long p6), .second, .val (.long (if (1 : Int64) < p5 then p5 else (1 : Int64))), .second, .val (.long (if (1 : Int64) < p6 then p6 else (1 : Int64))), .second, .val (.ref r7), .val (.ref r12), .val (.ref r17), .val (.ref r22), .val (.ref r27), .val (.ref r32), .val (.ref r37), .val (.ref r42), .val (.ref b46), .val (.ref b78), .unset] [(.int (1 : Int32))])) _
          exact kk
        · skip
          refine ⟨T106, _, X106, N106, rfl, fun tgt kk => ?_⟩
          have kq118 : ((.int (bI ((p1 = p2) ∧ ((p3 = p4) ∧ ((if (1 : Int64) < p5 then p5 else (1 : Int64)) = (if (1 : Int64) < p6 then p6 else (1 : Int64))))))) : Value) = (.int (0 : Int32)) := ((congrArg Value.int (bI_iff (and_iff_right hc161_111))).trans ((congrArg Value.int (bI_iff (and_iff_right hc168_113))).trans (congrArg Value.int (bI_f hc176_115))))
          rw [kq118] at kk
          refine pre114 tgt ?_
          refine XS.ifYes X106.here hx rfl (pc0 := 176) (pc' := 183) rfl (hb hby at_176) rfl (XT.ll_ne_t hc176_115) (by decide) (by decide) ?_
          show Steps p.tables e below (T106.setTop (mkF m 183 #[.val (.int p1), .val (.int p2), .val (.long p3), .second, .val (.long p4), .second, .val (.long p5), .second, .val (.long p6), .second, .val (.long (if (1 : Int64) < p5 then p5 else (1 : Int64))), .second, .val (.long (if (1 : Int64) < p6 then p6 else (1 : Int64))), .second, .val (.ref r7), .val (.ref r12), .val (.ref r17), .val (.ref r22), .val (.ref r27), .val (.ref r32), .val (.ref r37), .val (.ref r42), .val (.ref b46), .val (.ref b78), .unset] [])) _
          refine XS.iconst X106.here hx rfl (hb hby at_183) ?_
          show Steps p.tables e below (T106.setTop (mkF m 184 #[.val (.int p1), .val (.int p2), .val (.long p3), .second, .val (.long p4), .second, .val (.long p5), .second, .val (.long p6), .second, .val (.long (if (1 : Int64) < p5 then p5 else (1 : Int64))), .second, .val (.long (if (1 : Int64) < p6 then p6 else (1 : Int64))), .second, .val (.ref r7), .val (.ref r12), .val (.ref r17), .val (.ref r22), .val (.ref r27), .val (.ref r32), .val (.ref r37), .val (.ref r42), .val (.ref b46), .val (.ref b78), .unset] [(.int (0 : Int32))])) _
          exact kk
      · skip
        refine ⟨T106, _, X106, N106, rfl, fun tgt kk => ?_⟩
        have kq119 : ((.int (bI ((p1 = p2) ∧ ((p3 = p4) ∧ ((if (1 : Int64) < p5 then p5 else (1 : Int64)) = (if (1 : Int64) < p6 then p6 else (1 : Int64))))))) : Value) = (.int (0 : Int32)) := ((congrArg Value.int (bI_iff (and_iff_right hc161_111))).trans (congrArg Value.int (bI_f (fun q => hc168_113 q.1))))
        rw [kq119] at kk
        refine pre112 tgt ?_
        refine XS.ifYes X106.here hx rfl (pc0 := 168) (pc' := 183) rfl (hb hby at_168) rfl (XT.ll_ne_t hc168_113) (by decide) (by decide) ?_
        show Steps p.tables e below (T106.setTop (mkF m 183 #[.val (.int p1), .val (.int p2), .val (.long p3), .second, .val (.long p4), .second, .val (.long p5), .second, .val (.long p6), .second, .val (.long (if (1 : Int64) < p5 then p5 else (1 : Int64))), .second, .val (.long (if (1 : Int64) < p6 then p6 else (1 : Int64))), .second, .val (.ref r7), .val (.ref r12), .val (.ref r17), .val (.ref r22), .val (.ref r27), .val (.ref r32), .val (.ref r37), .val (.ref r42), .val (.ref b46), .val (.ref b78), .unset] [])) _
        refine XS.iconst X106.here hx rfl (hb hby at_183) ?_
        show Steps p.tables e below (T106.setTop (mkF m 184 #[.val (.int p1), .val (.int p2), .val (.long p3), .second, .val (.long p4), .second, .val (.long p5), .second, .val (.long p6), .second, .val (.long (if (1 : Int64) < p5 then p5 else (1 : Int64))), .second, .val (.long (if (1 : Int64) < p6 then p6 else (1 : Int64))), .second, .val (.ref r7), .val (.ref r12), .val (.ref r17), .val (.ref r22), .val (.ref r27), .val (.ref r32), .val (.ref r37), .val (.ref r42), .val (.ref b46), .val (.ref b78), .unset] [(.int (0 : Int32))])) _
        exact kk
    · skip
      refine ⟨T106, _, X106, N106, rfl, fun tgt kk => ?_⟩
      have kq120 : ((.int (bI ((p1 = p2) ∧ ((p3 = p4) ∧ ((if (1 : Int64) < p5 then p5 else (1 : Int64)) = (if (1 : Int64) < p6 then p6 else (1 : Int64))))))) : Value) = (.int (0 : Int32)) := (congrArg Value.int (bI_f (fun q => hc161_111 q.1)))
      rw [kq120] at kk
      refine pre110 tgt ?_
      refine XS.icmpYes X106.here hx rfl (pc0 := 161) (pc' := 183) rfl (hb hby at_161) rfl (XT.ii_ne_t hc161_111) (by decide) (by decide) ?_
      show Steps p.tables e below (T106.setTop (mkF m 183 #[.val (.int p1), .val (.int p2), .val (.long p3), .second, .val (.long p4), .second, .val (.long p5), .second, .val (.long p6), .second, .val (.long (if (1 : Int64) < p5 then p5 else (1 : Int64))), .second, .val (.long (if (1 : Int64) < p6 then p6 else (1 : Int64))), .second, .val (.ref r7), .val (.ref r12), .val (.ref r17), .val (.ref r22), .val (.ref r27), .val (.ref r32), .val (.ref r37), .val (.ref r42), .val (.ref b46), .val (.ref b78), .unset] [])) _
      refine XS.iconst X106.here hx rfl (hb hby at_183) ?_
      show Steps p.tables e below (T106.setTop (mkF m 184 #[.val (.int p1), .val (.int p2), .val (.long p3), .second, .val (.long p4), .second, .val (.long p5), .second, .val (.long p6), .second, .val (.long (if (1 : Int64) < p5 then p5 else (1 : Int64))), .second, .val (.long (if (1 : Int64) < p6 then p6 else (1 : Int64))), .second, .val (.ref r7), .val (.ref r12), .val (.ref r17), .val (.ref r22), .val (.ref r27), .val (.ref r32), .val (.ref r37), .val (.ref r42), .val (.ref b46), .val (.ref b78), .unset] [(.int (0 : Int32))])) _
      exact kk
  have pre121 : ∀ tgt, Steps p.tables e below (T116.setTop (mkF m 190 #[.val (.int p1), .val (.int p2), .val (.long p3), .second, .val (.long p4), .second, .val (.long p5), .second, .val (.long p6), .second, .val (.long (if (1 : Int64) < p5 then p5 else (1 : Int64))), .second, .val (.long (if (1 : Int64) < p6 then p6 else (1 : Int64))), .second, .val (.ref r7), .val (.ref r12), .val (.ref r17), .val (.ref r22), .val (.ref r27), .val (.ref r32), .val (.ref r37), .val (.ref r42), .val (.ref b46), .val (.ref b78), .val (.int (bI ((p1 = p2) ∧ ((p3 = p4) ∧ ((if (1 : Int64) < p5 then p5 else (1 : Int64)) = (if (1 : Int64) < p6 then p6 else (1 : Int64)))))))] [(.ref b78), (.ref b46)])) tgt → Steps p.tables e below (s₁.setTop (entryFrame m #[(.int p1), (.int p2), (.long p3), (.long p4), (.long p5), (.long p6)] maxLocals)) tgt := by
    intro tgt kk
    refine pre116 tgt ?_
    refine XS.istore X116.here hx rfl (hb hby at_184) rfl (l' := #[.val (.int p1), .val (.int p2), .val (.long p3), .second, .val (.long p4), .second, .val (.long p5), .second, .val (.long p6), .second, .val (.long (if (1 : Int64) < p5 then p5 else (1 : Int64))), .second, .val (.long (if (1 : Int64) < p6 then p6 else (1 : Int64))), .second, .val (.ref r7), .val (.ref r12), .val (.ref r17), .val (.ref r22), .val (.ref r27), .val (.ref r32), .val (.ref r37), .val (.ref r42), .val (.ref b46), .val (.ref b78), .val (.int (bI ((p1 = p2) ∧ ((p3 = p4) ∧ ((if (1 : Int64) < p5 then p5 else (1 : Int64)) = (if (1 : Int64) < p6 then p6 else (1 : Int64)))))))]) rfl ?_
    show Steps p.tables e below (T116.setTop (mkF m 186 #[.val (.int p1), .val (.int p2), .val (.long p3), .second, .val (.long p4), .second, .val (.long p5), .second, .val (.long p6), .second, .val (.long (if (1 : Int64) < p5 then p5 else (1 : Int64))), .second, .val (.long (if (1 : Int64) < p6 then p6 else (1 : Int64))), .second, .val (.ref r7), .val (.ref r12), .val (.ref r17), .val (.ref r22), .val (.ref r27), .val (.ref r32), .val (.ref r37), .val (.ref r42), .val (.ref b46), .val (.ref b78), .val (.int (bI ((p1 = p2) ∧ ((p3 = p4) ∧ ((if (1 : Int64) < p5 then p5 else (1 : Int64)) = (if (1 : Int64) < p6 then p6 else (1 : Int64)))))))] [])) _
    refine XS.aload X116.here hx rfl (hb hby at_186) rfl rfl ?_
    show Steps p.tables e below (T116.setTop (mkF m 188 #[.val (.int p1), .val (.int p2), .val (.long p3), .second, .val (.long p4), .second, .val (.long p5), .second, .val (.long p6), .second, .val (.long (if (1 : Int64) < p5 then p5 else (1 : Int64))), .second, .val (.long (if (1 : Int64) < p6 then p6 else (1 : Int64))), .second, .val (.ref r7), .val (.ref r12), .val (.ref r17), .val (.ref r22), .val (.ref r27), .val (.ref r32), .val (.ref r37), .val (.ref r42), .val (.ref b46), .val (.ref b78), .val (.int (bI ((p1 = p2) ∧ ((p3 = p4) ∧ ((if (1 : Int64) < p5 then p5 else (1 : Int64)) = (if (1 : Int64) < p6 then p6 else (1 : Int64)))))))] [(.ref b46)])) _
    refine XS.aload X116.here hx rfl (hb hby at_188) rfl rfl ?_
    show Steps p.tables e below (T116.setTop (mkF m 190 #[.val (.int p1), .val (.int p2), .val (.long p3), .second, .val (.long p4), .second, .val (.long p5), .second, .val (.long p6), .second, .val (.long (if (1 : Int64) < p5 then p5 else (1 : Int64))), .second, .val (.long (if (1 : Int64) < p6 then p6 else (1 : Int64))), .second, .val (.ref r7), .val (.ref r12), .val (.ref r17), .val (.ref r22), .val (.ref r27), .val (.ref r32), .val (.ref r37), .val (.ref r42), .val (.ref b46), .val (.ref b78), .val (.int (bI ((p1 = p2) ∧ ((p3 = p4) ∧ ((if (1 : Int64) < p5 then p5 else (1 : Int64)) = (if (1 : Int64) < p6 then p6 else (1 : Int64)))))))] [(.ref b78), (.ref b46)])) _
    exact kk
  obtain ⟨cq122, kq122, q122a, q122b, q122c⟩ := isOf hZ e116 E_b46
  obtain ⟨_, _, ⟨T122, L122, k122, n122⟩, -, X122, ⟨Lc122, hQ122, l122, y122, z122⟩, st122⟩ := X116.virtualBack hx (y := (⟨"com/example/leasehold/leasehold/LeaseRequest", "hasTermsOf", "(Lcom/example/leasehold/leasehold/LeaseRequest;)Z"⟩ : MethodName)) (z := (⟨"com/example/leasehold/leasehold/LeaseRequest", "hasTermsOf", "(Lcom/example/leasehold/leasehold/LeaseRequest;)Z"⟩ : MethodName)) hown (mvT hZ (hw _ (List.mem_of_getElem? (i := 118) rfl))) (mvT hZ (hw _ (List.mem_of_getElem? (i := 119) rfl))) (notFace_of_selects (args := #[]) (mvT hZ (hw _ (List.mem_of_getElem? (i := 121) rfl)))) (mvT hZ (hw _ (List.mem_of_getElem? (i := 121) rfl))) (mvT hZ (hw _ (List.mem_of_getElem? (i := 120) rfl))) (by decide) (backOf (W := 0) (rmH l Z a0 hw [] b46 b78 r7 t7 kk7 (own_sv (p1 &&& (255 : Int32))) r27 t27 kk27 (own_sv (p2 &&& (255 : Int32))) r12 t12 kk12 (own_sv (((p1.toUInt32 >>> ((8 : Int32) &&& 31).toUInt32).toInt32) &&& (255 : Int32))) r32 t32 kk32 (own_sv (((p2.toUInt32 >>> ((8 : Int32) &&& 31).toUInt32).toInt32) &&& (255 : Int32))) r17 t17 kk17 (own_sv (((p1.toUInt32 >>> ((16 : Int32) &&& 31).toUInt32).toInt32) &&& (255 : Int32))) r37 t37 kk37 (own_sv (((p2.toUInt32 >>> ((16 : Int32) &&& 31).toUInt32).toInt32) &&& (255 : Int32))) r22 t22 kk22 (own_sv (((p1.toUInt32 >>> ((24 : Int32) &&& 31).toUInt32).toInt32) &&& (255 : Int32))) r42 t42 kk42 (own_sv (((p2.toUInt32 >>> ((24 : Int32) &&& 31).toUInt32).toInt32) &&& (255 : Int32))) (p3) ((if (1 : Int64) < p5 then p5 else (1 : Int64))) (p4) ((if (1 : Int64) < p6 then p6 else (1 : Int64))) z0 T106.heap n0 Zs108 S_CS hz F_actor_b46 F_actor_b78 E_r7 Fv_r7 Fc_r7 V_r7 E_r27 Fv_r27 Fc_r27 V_r27 own_sv_p own_sv_len own_sv_p own_sv_len F_intent_b46 F_intent_b78 E_r12 Fv_r12 Fc_r12 V_r12 E_r32 Fv_r32 Fc_r32 V_r32 own_sv_p own_sv_len own_sv_p own_sv_len F_intentVersion_b46 F_intentVersion_b78 E_r17 Fv_r17 Fc_r17 V_r17 E_r37 Fv_r37 Fc_r37 V_r37 own_sv_p own_sv_len own_sv_p own_sv_len F_hostId_b46 F_hostId_b78 E_r22 Fv_r22 Fc_r22 V_r22 E_r42 Fv_r42 Fc_r42 V_r42 own_sv_p own_sv_len own_sv_p own_sv_len F_pid_b46 F_ttlSeconds_b46 F_pid_b78 F_ttlSeconds_b78) hZ (hw _ (List.mem_of_getElem? (i := 122) rfl)) (hw _ (List.mem_of_getElem? (i := 36) rfl)) (by decide) (by decide)) q122a q122c (g := (mkF m 190 #[.val (.int p1), .val (.int p2), .val (.long p3), .second, .val (.long p4), .second, .val (.long p5), .second, .val (.long p6), .second, .val (.long (if (1 : Int64) < p5 then p5 else (1 : Int64))), .second, .val (.long (if (1 : Int64) < p6 then p6 else (1 : Int64))), .second, .val (.ref r7), .val (.ref r12), .val (.ref r17), .val (.ref r22), .val (.ref r27), .val (.ref r32), .val (.ref r37), .val (.ref r42), .val (.ref b46), .val (.ref b78), .val (.int (bI ((p1 = p2) ∧ ((p3 = p4) ∧ ((if (1 : Int64) < p5 then p5 else (1 : Int64)) = (if (1 : Int64) < p6 then p6 else (1 : Int64)))))))] [(.ref b78), (.ref b46)])) rfl (by rw [hml]; rfl) (Steps.refl _) (argsL := [(.ref b78)]) (rest := []) (lenOf pd__Lcom_example_leasehold_leasehold_LeaseRequest__Z rfl) rfl (by show 2 * 0 + _ ≤ _; exact Nat.le_of_eq rfl) (hb hby at_190) (fun _ _ => ⟨rfl, e116, (by decide : 46 + 0 ≤ _), (by decide : 926 + 0 ≤ _)⟩)
  dsimp only [Pt.U, Pt.locs, Pt.cells, Pt.slots] at X122 l122 y122 z122 st122 hQ122
  subst l122 y122 z122
  obtain ⟨rfl, N122q, hh122⟩ := hQ122
  have N122 := Fr.app N116 N122q
  have hk123 : (((own_sv (p1 &&& (255 : Int32))) = (own_sv (p2 &&& (255 : Int32)))) ∧ (((own_sv (((p1.toUInt32 >>> ((8 : Int32) &&& 31).toUInt32).toInt32) &&& (255 : Int32))) = (own_sv (((p2.toUInt32 >>> ((8 : Int32) &&& 31).toUInt32).toInt32) &&& (255 : Int32)))) ∧ (((own_sv (((p1.toUInt32 >>> ((16 : Int32) &&& 31).toUInt32).toInt32) &&& (255 : Int32))) = (own_sv (((p2.toUInt32 >>> ((16 : Int32) &&& 31).toUInt32).toInt32) &&& (255 : Int32)))) ∧ (((own_sv (((p1.toUInt32 >>> ((24 : Int32) &&& 31).toUInt32).toInt32) &&& (255 : Int32))) = (own_sv (((p2.toUInt32 >>> ((24 : Int32) &&& 31).toUInt32).toInt32) &&& (255 : Int32)))) ∧ ((p3 = p4) ∧ ((if (1 : Int64) < p5 then p5 else (1 : Int64)) = (if (1 : Int64) < p6 then p6 else (1 : Int64)))))))) ↔ ((p1 = p2) ∧ ((p3 = p4) ∧ ((if (1 : Int64) < p5 then p5 else (1 : Int64)) = (if (1 : Int64) < p6 then p6 else (1 : Int64))))) := (own_fin p1 p2)
  obtain ⟨fs, hr, hrun, hended, hR⟩ := Stand.leaveW (s := s) (vm₁ := T106.vm) X122 (n := T106.heap.size) hS106 (by rw [hh122]; exact (Nat.le_refl _)) (v := some (.int (1 : Int32))) (fun h => by rw [Bd.returns] at h; cases h)
  refine ⟨_, _, pre121 _ ?_, hrun, hended, _, _, rfl, ?_, ?_, hR.1, hR.2.1, hR.2.2.1, hR.2.2.2.mono (by decide) (by decide)⟩
  · skip
    refine st122.trans ?_
    show Steps p.tables e below (T122.setTop (mkF m 193 #[.val (.int p1), .val (.int p2), .val (.long p3), .second, .val (.long p4), .second, .val (.long p5), .second, .val (.long p6), .second, .val (.long (if (1 : Int64) < p5 then p5 else (1 : Int64))), .second, .val (.long (if (1 : Int64) < p6 then p6 else (1 : Int64))), .second, .val (.ref r7), .val (.ref r12), .val (.ref r17), .val (.ref r22), .val (.ref r27), .val (.ref r32), .val (.ref r37), .val (.ref r42), .val (.ref b46), .val (.ref b78), .val (.int (bI ((p1 = p2) ∧ ((p3 = p4) ∧ ((if (1 : Int64) < p5 then p5 else (1 : Int64)) = (if (1 : Int64) < p6 then p6 else (1 : Int64)))))))] [(.int (bI (((own_sv (p1 &&& (255 : Int32))) = (own_sv (p2 &&& (255 : Int32)))) ∧ (((own_sv (((p1.toUInt32 >>> ((8 : Int32) &&& 31).toUInt32).toInt32) &&& (255 : Int32))) = (own_sv (((p2.toUInt32 >>> ((8 : Int32) &&& 31).toUInt32).toInt32) &&& (255 : Int32)))) ∧ (((own_sv (((p1.toUInt32 >>> ((16 : Int32) &&& 31).toUInt32).toInt32) &&& (255 : Int32))) = (own_sv (((p2.toUInt32 >>> ((16 : Int32) &&& 31).toUInt32).toInt32) &&& (255 : Int32)))) ∧ (((own_sv (((p1.toUInt32 >>> ((24 : Int32) &&& 31).toUInt32).toInt32) &&& (255 : Int32))) = (own_sv (((p2.toUInt32 >>> ((24 : Int32) &&& 31).toUInt32).toInt32) &&& (255 : Int32)))) ∧ ((p3 = p4) ∧ ((if (1 : Int64) < p5 then p5 else (1 : Int64)) = (if (1 : Int64) < p6 then p6 else (1 : Int64))))))))))])) _
    refine XS.iload X122.here hx rfl (hb hby at_193) rfl ?_
    show Steps p.tables e below (T122.setTop (mkF m 195 #[.val (.int p1), .val (.int p2), .val (.long p3), .second, .val (.long p4), .second, .val (.long p5), .second, .val (.long p6), .second, .val (.long (if (1 : Int64) < p5 then p5 else (1 : Int64))), .second, .val (.long (if (1 : Int64) < p6 then p6 else (1 : Int64))), .second, .val (.ref r7), .val (.ref r12), .val (.ref r17), .val (.ref r22), .val (.ref r27), .val (.ref r32), .val (.ref r37), .val (.ref r42), .val (.ref b46), .val (.ref b78), .val (.int (bI ((p1 = p2) ∧ ((p3 = p4) ∧ ((if (1 : Int64) < p5 then p5 else (1 : Int64)) = (if (1 : Int64) < p6 then p6 else (1 : Int64)))))))] [(.int (bI ((p1 = p2) ∧ ((p3 = p4) ∧ ((if (1 : Int64) < p5 then p5 else (1 : Int64)) = (if (1 : Int64) < p6 then p6 else (1 : Int64))))))), (.int (bI (((own_sv (p1 &&& (255 : Int32))) = (own_sv (p2 &&& (255 : Int32)))) ∧ (((own_sv (((p1.toUInt32 >>> ((8 : Int32) &&& 31).toUInt32).toInt32) &&& (255 : Int32))) = (own_sv (((p2.toUInt32 >>> ((8 : Int32) &&& 31).toUInt32).toInt32) &&& (255 : Int32)))) ∧ (((own_sv (((p1.toUInt32 >>> ((16 : Int32) &&& 31).toUInt32).toInt32) &&& (255 : Int32))) = (own_sv (((p2.toUInt32 >>> ((16 : Int32) &&& 31).toUInt32).toInt32) &&& (255 : Int32)))) ∧ (((own_sv (((p1.toUInt32 >>> ((24 : Int32) &&& 31).toUInt32).toInt32) &&& (255 : Int32))) = (own_sv (((p2.toUInt32 >>> ((24 : Int32) &&& 31).toUInt32).toInt32) &&& (255 : Int32)))) ∧ ((p3 = p4) ∧ ((if (1 : Int64) < p5 then p5 else (1 : Int64)) = (if (1 : Int64) < p6 then p6 else (1 : Int64))))))))))])) _
    refine XS.icmpNo X122.here hx rfl (hb hby at_195) rfl (XT.ii_ne_f (bI_eq.mpr hk123)) ?_
    show Steps p.tables e below (T122.setTop (mkF m 198 #[.val (.int p1), .val (.int p2), .val (.long p3), .second, .val (.long p4), .second, .val (.long p5), .second, .val (.long p6), .second, .val (.long (if (1 : Int64) < p5 then p5 else (1 : Int64))), .second, .val (.long (if (1 : Int64) < p6 then p6 else (1 : Int64))), .second, .val (.ref r7), .val (.ref r12), .val (.ref r17), .val (.ref r22), .val (.ref r27), .val (.ref r32), .val (.ref r37), .val (.ref r42), .val (.ref b46), .val (.ref b78), .val (.int (bI ((p1 = p2) ∧ ((p3 = p4) ∧ ((if (1 : Int64) < p5 then p5 else (1 : Int64)) = (if (1 : Int64) < p6 then p6 else (1 : Int64)))))))] [])) _
    refine XS.iconst X122.here hx rfl (hb hby at_198) ?_
    show Steps p.tables e below (T122.setTop (mkF m 199 #[.val (.int p1), .val (.int p2), .val (.long p3), .second, .val (.long p4), .second, .val (.long p5), .second, .val (.long p6), .second, .val (.long (if (1 : Int64) < p5 then p5 else (1 : Int64))), .second, .val (.long (if (1 : Int64) < p6 then p6 else (1 : Int64))), .second, .val (.ref r7), .val (.ref r12), .val (.ref r17), .val (.ref r22), .val (.ref r27), .val (.ref r32), .val (.ref r37), .val (.ref r42), .val (.ref b46), .val (.ref b78), .val (.int (bI ((p1 = p2) ∧ ((p3 = p4) ∧ ((if (1 : Int64) < p5 then p5 else (1 : Int64)) = (if (1 : Int64) < p6 then p6 else (1 : Int64)))))))] [(.int (1 : Int32))])) _
    refine XS.goto X122.here hx rfl (pc0 := 199) (pc' := 203) rfl (hb hby at_199) (by decide) (by decide) ?_
    show Steps p.tables e below (T122.setTop (mkF m 203 #[.val (.int p1), .val (.int p2), .val (.long p3), .second, .val (.long p4), .second, .val (.long p5), .second, .val (.long p6), .second, .val (.long (if (1 : Int64) < p5 then p5 else (1 : Int64))), .second, .val (.long (if (1 : Int64) < p6 then p6 else (1 : Int64))), .second, .val (.ref r7), .val (.ref r12), .val (.ref r17), .val (.ref r22), .val (.ref r27), .val (.ref r32), .val (.ref r37), .val (.ref r42), .val (.ref b46), .val (.ref b78), .val (.int (bI ((p1 = p2) ∧ ((p3 = p4) ∧ ((if (1 : Int64) < p5 then p5 else (1 : Int64)) = (if (1 : Int64) < p6 then p6 else (1 : Int64)))))))] [(.int (1 : Int32))])) _
    exact retN X122 hx (t := .boolean) Bd.returns (by simp) (hb hby at_203) hr
  · show Q0 Z p1 p2 p3 p4 p5 p6 z0 aA clA aI h0 n0 _ T122.heap _
    rw [hh122]
    exact ⟨rfl, N122⟩
  · show CHr Z own_EL s.vm s.heap T122.vm T122.heap
    rw [hh, hh122]
    exact CH107.trans (CHv.at (vm0 := T106.vm) (s := s) X122 hZ hEL CH107.1)
set_option maxRecDepth 65536 in
set_option maxHeartbeats 40000000 in
theorem comes_1 {Post : Tables → Env → Array Value → State → Outcome → State → Prop} (hpost : ∀ tb e args s v u, (limb_1_1.after args s (.returned v) u = true ∧ limb_1_2.after args s (.returned v) u = true ∧ True) → ReturnedEndW s (.returned v) u (Jvm.fieldLocs frame_1_writes args s ++ Jvm.arrayLocs frame_1_arrays args s ++ Jvm.staticLocs frame_1_statics s) 72 6400 → Post tb e args s (.returned v) u) :
    ArmFor flags0 classFile x code maxLocals ret World_1 tables_1 room_1 Calls_1 rest_1 Pre_1 Post := by
  intro l hfl _ _ p e ha hc hk s m args below hf hA hF happ hP
  obtain ⟨hcalls, hrest, hpre⟩ := hP
  obtain ⟨-, -, -, hnamed, -, -, -, hat⟩ := (Spec.applies_iff hf).mp happ
  obtain ⟨hg, hn⟩ := and_e (Cond.before_iff.mp (show (Jvm.Cond.and given_1 narrow_1).before args s = true from hpre))
  obtain ⟨hcount, g0⟩ := and_e hg
  obtain ⟨ga0, g1⟩ := and_e g0
  obtain ⟨ga1, g2⟩ := and_e g1
  obtain ⟨ga2, g3⟩ := and_e g2
  obtain ⟨ga3, g4⟩ := and_e g3
  obtain ⟨ga4, g5⟩ := and_e g4
  have ga5 := g5
  obtain ⟨w0, w1, w2, w3, w4, w5, rfl⟩ : ∃ w0 w1 w2 w3 w4 w5 : Value, args = #[w0, w1, w2, w3, w4, w5] := by
    have hs : args.size = 6 := by simpa [Cond.value, given_1] using hcount
    obtain ⟨L⟩ := args
    match L, hs with
    | [w0, w1, w2, w3, w4, w5], _ => exact ⟨w0, w1, w2, w3, w4, w5, rfl⟩
  have hw := fun d (hd : d ∈ tables_1) => atoms_spec (ws := Jvm.Cond.code x code maxLocals ret :: tables_1) hat d (List.mem_cons_of_mem _ hd)
  have hfit : Fit s := fun {y c} hc i hi => by
    obtain ⟨ha, rfl⟩ := Array.getElem?_eq_some_iff.mp hc
    have q := List.all_eq_true.mp ((Array.all_eq_true_iff_forall_mem.mp hF) _ (Array.getElem_mem ha)) i (List.mem_range.mpr hi)
    simpa [Array.getElem?_eq_getElem hi] using q
  obtain ⟨i0, ei0⟩ := is_v ga0
  obtain rfl : w0 = (.int i0) := Option.some.inj ei0
  obtain ⟨i1, ei1⟩ := is_v ga1
  obtain rfl : w1 = (.int i1) := Option.some.inj ei1
  obtain ⟨i2, ei2⟩ := isL_v ga2
  obtain rfl : w2 = (.long i2) := Option.some.inj ei2
  obtain ⟨i3, ei3⟩ := isL_v ga3
  obtain rfl : w3 = (.long i3) := Option.some.inj ei3
  obtain ⟨i4, ei4⟩ := isL_v ga4
  obtain rfl : w4 = (.long i4) := Option.some.inj ei4
  obtain ⟨i5, ei5⟩ := isL_v ga5
  obtain rfl : w5 = (.long i5) := Option.some.inj ei5
  obtain ⟨hsets, hown0⟩ := atoms_of _ (rest_1_c_eq ▸ (show rest_1_c.before _ s = true from hrest))
  obtain ⟨z0, evz⟩ := is_v (Cond.before_iff.mp (hsets _ (List.mem_of_getElem? (i := 1) rfl)))
  have S_CS : Sta s s.heap "java/lang/String" "COMPACT_STRINGS" "Z" (.int z0) := Sta.start evz (Or.inl (hsets _ (List.mem_of_getElem? (i := 0) rfl)))
  have hz : ¬ z0 = 0 := own_neI evz (Cond.before_iff.mp (hsets _ (List.mem_of_getElem? (i := 2) rfl)))
  obtain ⟨aI, evI⟩ := exa_v (Cond.before_iff.mp (hsets _ (List.mem_of_getElem? (i := 11) rfl)))
  have E_I : Exa s s.heap aI "java/lang/CharacterDataLatin1" := Exa.start evI (Cond.before_iff.mp (hsets _ (List.mem_of_getElem? (i := 11) rfl)))
  have S_I : Sta s s.heap "java/lang/CharacterDataLatin1" "instance" "Ljava/lang/CharacterDataLatin1;" (.ref aI) := Sta.start evI (Or.inl (hsets _ (List.mem_of_getElem? (i := 10) rfl)))
  obtain ⟨aA, evA⟩ := arr_v (Cond.before_iff.mp (hsets _ (List.mem_of_getElem? (i := 14) rfl)))
  obtain ⟨clA, ArA⟩ := Arr.start evA (Cond.before_iff.mp (hsets _ (List.mem_of_getElem? (i := 14) rfl)))
  have S_A : Sta s s.heap "java/lang/CharacterDataLatin1" "A" "[I" (.ref aA) := Sta.start evA (Or.inl (hsets _ (List.mem_of_getElem? (i := 13) rfl)))
  have hlA := own_len evA ArA (own_eqI (Cond.before_iff.mp (hsets _ (List.mem_of_getElem? (i := 16) rfl))))
  have Tb : Tab s s.heap aA clA .int (256 : Int32) := Tab.start hfit ArA (Or.inl rfl) hlA.1 hlA.2 (by decide)
  have hn112 : ¬ ((112 : Int32) = (32 : Int32)) ∧ ¬ ((112 : Int32) = (9 : Int32)) ∧ ¬ (((atv clA (112 : Int32)) &&& (28672 : Int32)) = (16384 : Int32)) := by
    rw [atv_of (elem_in (own_eqI (Cond.before_iff.mp (hsets _ (List.mem_of_getElem? (i := 129) rfl)))) evA rfl ArA.1).2]
    decide
  have hn113 : ¬ ((113 : Int32) = (32 : Int32)) ∧ ¬ ((113 : Int32) = (9 : Int32)) ∧ ¬ (((atv clA (113 : Int32)) &&& (28672 : Int32)) = (16384 : Int32)) := by
    rw [atv_of (elem_in (own_eqI (Cond.before_iff.mp (hsets _ (List.mem_of_getElem? (i := 130) rfl)))) evA rfl ArA.1).2]
    decide
  have hheld : ∀ p ∈ own_EL, Jvm.Lit.constHeld s p.1 p.2 := fun p hp => hcalls.1 p ((by decide +kernel : ∀ p ∈ own_EL, p ∈ consts_1) p hp)
  have hCv : CHv s own_EL s.vm s.heap := CHv.start (own_EW hw) hheld (hsets _ (List.mem_of_getElem? (i := 2) rfl)) (hw _ (List.mem_of_getElem? (i := 22) rfl)) (hw _ (List.mem_of_getElem? (i := 18) rfl))
  obtain ⟨n, o, h1, h2, h3, _, L, rfl, ⟨rfl, N⟩, -, hq⟩ := rm0 l s _ hw tables_1 i0 i1 i2 i3 i4 i5 z0 aA clA aI s.heap s.heap.size (Nat.le_refl _) S_CS S_A S_I E_I Tb hn112 hn113 hz p e ha hc hk s m _ below hf ((Spec.applies_iff_loose hf).mp happ).1 ⟨rfl, State.Warmed39.refl s, rfl, hCv⟩ trivial
  refine ⟨n, _, h1, h2, h3, hpost _ _ _ _ _ _ ⟨Cond.after_iff.mpr rfl, Cond.after_iff.mpr (eq_i res_at (Term.int_eval (1)) rfl), trivial⟩ ⟨hq.1, hq.2.1, hq.2.2.1, (hq.2.2.2.sift fun y hy => Or.inr (N y hy)).mono (by decide) (by decide)⟩⟩
theorem main_1_1 : Claimed_1_1 := comes_1 fun _ _ _ _ _ _ h hF => ⟨h.1, hF⟩
theorem main_1_2 : Claimed_1_2 := comes_1 fun _ _ _ _ _ _ h hF => ⟨h.2.1, hF⟩
end Jvm.Pilot.@@N@@
namespace Jvm.Pilot.@@N@@
open Jvm Jvm.ClassFile Sem Op Lib Jvm.Free Jvm.Stand Jvm.Pilot.@@N@@.Jvm.D
/-! MADE BY PROGRAM (witnessworld.py) out of the Statement's table words and the real class files: 23 classes; the members and pool entries that the words name. The judged class is class 1, her method 2. -/
namespace start1
open Jvm.ClassFile
def u (s : String) : CpInfo := .utf8 (stringToUtf16 s)
/-- a pool by its gaps: so many unusable entries, then the entry; so many at the end -/
def gap : Nat → List CpInfo → List CpInfo
  | 0, r => r
  | n + 1, r => .unusable :: gap n r
def poolList (es : List (Nat × CpInfo)) (last : Nat) : List CpInfo := es.foldr (fun e r => gap e.1 (e.2 :: r)) (gap last [])
def pool (es : List (Nat × CpInfo)) (last : Nat) : Array CpInfo := ⟨poolList es last⟩
def fileOf (pool : Array CpInfo) (this : Nat) (attrs : Array Attribute := #[]) (ms : Array MethodInfo := #[]) (fl : Nat := 33) (sup : Nat := 0) (ifs : Array Nat := #[]) (fds : Array FieldInfo := #[]) : ClassFile where
  minorVersion := 0
  majorVersion := 65
  constantPool := pool
  accessFlags := fl
  thisClass := this
  superClass := sup
  interfaces := ifs
  fields := fds
  methods := ms
  attributes := attrs
def plain (name : String) (sup : Option ClassId) : Class where
  name := name
  kind := .ordinary
  loader := none
  accessFlags := 33
  super := sup
  interfaces := #[]
  cf := none
  fields := #[]
  methods := #[]
  instanceTypes := #[]
  staticTypes := #[]
  resolved := #[]
  callSites := []
  init := .initialized
  statics := none
  mirror := none

def pool0 : Array CpInfo := pool [(5, u "<init>"), (0, u "()V"), (1, .class_ 10), (1, u "java/lang/Object")] 113

def k0c0 : Code := { maxStack := 0, maxLocals := 1, code := object_method_1_code, exceptionTable := #[], attributes := #[] }
def k0m0 : Method := { name := "<init>", desc := "()V", sig := { parameters := [], returnType := none }, accessFlags := 1, code := some k0c0 }
/-- java/lang/Object -/
def k0 : Class := { plain "java/lang/Object" none with
  accessFlags := 33
  interfaces := #[]
  cf := some (fileOf pool0 8 #[] #[{ accessFlags := 1, nameIndex := 5, descriptorIndex := 6, attributes := #[] }] 33 0 #[] #[])
  fields := #[]
  methods := #[k0m0]
  instanceTypes := #[]
  staticTypes := #[]
  resolved := Array.replicate 124 none
  statics := none }

def pool1 : Array CpInfo := pool [(2, .class_ 4), (1, u "java/lang/Object"), (0, u "<init>"), (0, u "()V"), (0, .class_ 8), (0, u "java/lang/String"), (0, .methodref 7 10), (0, .nameAndType 5 11), (0, u "([C)V"), (0, .methodref 7 13), (0, .nameAndType 14 15), (0, u "valueOf"), (0, u "(C)Ljava/lang/String;"), (0, .methodref 17 18), (0, .class_ 19), (0, .nameAndType 20 21), (0, u "java/lang/Math"), (0, u "max"), (0, u "(JJ)J"), (0, .methodref 23 24), (0, .class_ 25), (0, .nameAndType 26 27), (0, u "com/example/leasehold/leasehold/LeaseRequestHasTermsOfPinLaw"), (0, u "str"), (0, u "(I)Ljava/lang/String;"), (0, .class_ 29), (0, u "com/example/leasehold/leasehold/LeaseRequest"), (0, .string 31), (0, u "p"), (0, .methodref 28 33), (0, .nameAndType 5 34), (0, u "(Ljava/lang/String;Ljava/lang/String;Ljava/lang/String;Ljava/lang/String;Ljava/lang/String;JJ)V"), (0, .string 36), (0, u "q"), (0, .methodref 28 38), (0, .nameAndType 39 40), (0, u "hasTermsOf"), (0, u "(Lcom/example/leasehold/leasehold/LeaseRequest;)Z"), (3, u "law"), (0, u "(IIJJJJ)Z")] 2

def k1m0 : Method := { name := "<init>", desc := "()V", sig := { parameters := [], returnType := none }, accessFlags := 2, code := none }
def k1c1 : Code := { maxStack := 6, maxLocals := 2, code := method_2_code, exceptionTable := #[], attributes := #[] }
def k1m1 : Method := { name := "str", desc := "(I)Ljava/lang/String;", sig := { parameters := [.int], returnType := some (.object "java/lang/String") }, accessFlags := 10, code := some k1c1 }
def k1c2 : Code := { maxStack := 11, maxLocals := 25, code := code, exceptionTable := #[], attributes := #[] }
def k1m2 : Method := { name := "law", desc := "(IIJJJJ)Z", sig := { parameters := [.int, .int, .long, .long, .long, .long], returnType := some .boolean }, accessFlags := 9, code := some k1c2 }
/-- com/example/leasehold/leasehold/LeaseRequestHasTermsOfPinLaw -/
def k1 : Class := { plain "com/example/leasehold/leasehold/LeaseRequestHasTermsOfPinLaw" (some 0) with
  accessFlags := 49
  interfaces := #[]
  cf := some (fileOf pool1 23 #[] #[{ accessFlags := 2, nameIndex := 5, descriptorIndex := 6, attributes := #[] }, { accessFlags := 10, nameIndex := 26, descriptorIndex := 27, attributes := #[] }, { accessFlags := 9, nameIndex := 44, descriptorIndex := 45, attributes := #[] }] 49 2 #[] #[])
  fields := #[]
  methods := #[k1m0, k1m1, k1m2]
  instanceTypes := #[]
  staticTypes := #[]
  resolved := Array.replicate 48 none
  statics := none }

def pool2 : Array CpInfo := pool [(1, .class_ 2), (0, u "java/lang/Math"), (1, .class_ 6), (1, u "java/lang/Object"), (0, u "<init>"), (0, u "()V"), (89, .class_ 100), (1, u "java/lang/Math$RandomNumberGeneratorHolder"), (20, u "(JJ)J"), (50, u "negativeZeroFloatBits"), (0, u "J"), (2, u "negativeZeroDoubleBits"), (21, u "max"), (46, u "$assertionsDisabled"), (0, u "Z"), (91, u "twoToTheDoubleScaleDown"), (0, u "D"), (4, u "twoToTheDoubleScaleUp"), (9, u "E"), (3, u "PI"), (2, u "TAU"), (2, u "DEGREES_TO_RADIANS"), (0, u "RADIANS_TO_DEGREES")] 94

def k2m0 : Method := { name := "<init>", desc := "()V", sig := { parameters := [], returnType := none }, accessFlags := 2, code := none }
def k2c1 : Code := { maxStack := 4, maxLocals := 4, code := jdk_29_method_66_code, exceptionTable := #[], attributes := #[] }
def k2m1 : Method := { name := "max", desc := "(JJ)J", sig := { parameters := [.long, .long], returnType := some .long }, accessFlags := 9, code := some k2c1 }
/-- java/lang/Math -/
def k2 : Class := { plain "java/lang/Math" (some 0) with
  accessFlags := 49
  interfaces := #[]
  cf := some (fileOf pool2 1 #[.nestMembers #[98]] #[{ accessFlags := 2, nameIndex := 7, descriptorIndex := 8, attributes := #[] }, { accessFlags := 9, nameIndex := 198, descriptorIndex := 121, attributes := #[] }] 49 4 #[] #[{ accessFlags := 25, nameIndex := 354, descriptorIndex := 339, attributes := #[] }, { accessFlags := 25, nameIndex := 358, descriptorIndex := 339, attributes := #[] }, { accessFlags := 25, nameIndex := 361, descriptorIndex := 339, attributes := #[] }, { accessFlags := 26, nameIndex := 364, descriptorIndex := 339, attributes := #[] }, { accessFlags := 26, nameIndex := 365, descriptorIndex := 339, attributes := #[] }, { accessFlags := 26, nameIndex := 172, descriptorIndex := 173, attributes := #[] }, { accessFlags := 26, nameIndex := 176, descriptorIndex := 173, attributes := #[] }, { accessFlags := 8, nameIndex := 344, descriptorIndex := 339, attributes := #[] }, { accessFlags := 8, nameIndex := 338, descriptorIndex := 339, attributes := #[] }, { accessFlags := 4120, nameIndex := 245, descriptorIndex := 246, attributes := #[] }])
  fields := #[{ name := "E", type := .double, accessFlags := 25, slot := 0, constantValue := 0 }, { name := "PI", type := .double, accessFlags := 25, slot := 1, constantValue := 0 }, { name := "TAU", type := .double, accessFlags := 25, slot := 2, constantValue := 0 }, { name := "DEGREES_TO_RADIANS", type := .double, accessFlags := 26, slot := 3, constantValue := 0 }, { name := "RADIANS_TO_DEGREES", type := .double, accessFlags := 26, slot := 4, constantValue := 0 }, { name := "negativeZeroFloatBits", type := .long, accessFlags := 26, slot := 5, constantValue := 0 }, { name := "negativeZeroDoubleBits", type := .long, accessFlags := 26, slot := 6, constantValue := 0 }, { name := "twoToTheDoubleScaleUp", type := .double, accessFlags := 8, slot := 7, constantValue := 0 }, { name := "twoToTheDoubleScaleDown", type := .double, accessFlags := 8, slot := 8, constantValue := 0 }, { name := "$assertionsDisabled", type := .boolean, accessFlags := 4120, slot := 9, constantValue := 0 }]
  methods := #[k2m0, k2m1]
  instanceTypes := #[]
  staticTypes := #[.double, .double, .double, .double, .double, .long, .long, .double, .double, .boolean]
  resolved := Array.replicate 460 none
  statics := none }

def pool3 : Array CpInfo := pool [(1, .class_ 2), (0, u "java/io/Serializable"), (0, .class_ 4), (0, u "java/lang/Object")] 2

/-- java/io/Serializable -/
def k3 : Class := { plain "java/io/Serializable" (some 0) with
  accessFlags := 1537
  interfaces := #[]
  cf := some (fileOf pool3 1 #[] #[] 1537 3 #[] #[])
  fields := #[]
  methods := #[]
  instanceTypes := #[]
  staticTypes := #[]
  resolved := Array.replicate 7 none
  statics := none }

def pool4 : Array CpInfo := pool [(1, .class_ 2), (0, u "java/lang/Comparable"), (0, .class_ 4), (0, u "java/lang/Object")] 7

/-- java/lang/Comparable -/
def k4 : Class := { plain "java/lang/Comparable" (some 0) with
  accessFlags := 1537
  interfaces := #[]
  cf := some (fileOf pool4 1 #[] #[] 1537 3 #[] #[])
  fields := #[]
  methods := #[]
  instanceTypes := #[]
  staticTypes := #[]
  resolved := Array.replicate 12 none
  statics := none }

def pool5 : Array CpInfo := pool [(2, .class_ 4), (1, u "java/lang/CharSequence"), (42, .class_ 48), (0, u "java/lang/CharSequence$1CodePointIterator"), (10, .class_ 60), (0, u "java/lang/CharSequence$1CharIterator"), (5, .class_ 67), (0, u "java/lang/Object")] 63

/-- java/lang/CharSequence -/
def k5 : Class := { plain "java/lang/CharSequence" (some 0) with
  accessFlags := 1537
  interfaces := #[]
  cf := some (fileOf pool5 2 #[.nestMembers #[47, 59]] #[] 1537 66 #[] #[])
  fields := #[]
  methods := #[]
  instanceTypes := #[]
  staticTypes := #[]
  resolved := Array.replicate 131 none
  statics := none }

def pool6 : Array CpInfo := pool [(1, .class_ 2), (0, u "java/lang/constant/Constable"), (0, .class_ 4), (0, u "java/lang/Object")] 6

/-- java/lang/constant/Constable -/
def k6 : Class := { plain "java/lang/constant/Constable" (some 0) with
  accessFlags := 1537
  interfaces := #[]
  cf := some (fileOf pool6 1 #[] #[] 1537 3 #[] #[])
  fields := #[]
  methods := #[]
  instanceTypes := #[]
  staticTypes := #[]
  resolved := Array.replicate 11 none
  statics := none }

def pool7 : Array CpInfo := pool [(1, .class_ 2), (0, u "java/lang/constant/ConstantDesc"), (0, .class_ 4), (0, u "java/lang/Object")] 32

/-- java/lang/constant/ConstantDesc -/
def k7 : Class := { plain "java/lang/constant/ConstantDesc" (some 0) with
  accessFlags := 1537
  interfaces := #[]
  cf := some (fileOf pool7 1 #[] #[] 1537 3 #[] #[])
  fields := #[]
  methods := #[]
  instanceTypes := #[]
  staticTypes := #[]
  resolved := Array.replicate 37 none
  statics := none }

def pool8 : Array CpInfo := pool [(1, .methodref 2 3), (0, .class_ 4), (0, .nameAndType 5 6), (0, u "java/lang/Object"), (0, u "<init>"), (0, u "()V"), (2, .fieldref 10 11), (0, .class_ 12), (0, .nameAndType 13 14), (0, u "java/lang/String"), (0, u "value"), (0, u "[B"), (0, .fieldref 10 16), (0, .nameAndType 17 18), (0, u "coder"), (0, u "B"), (2, u "hash"), (0, u "I"), (2, u "hashIsZero"), (0, u "Z"), (0, .methodref 10 28), (0, .nameAndType 5 29), (0, u "([CIILjava/lang/Void;)V"), (8, .fieldref 10 39), (0, .nameAndType 40 26), (0, u "COMPACT_STRINGS"), (1, .class_ 44), (1, u "java/lang/StringUTF16"), (0, u "compress"), (1, .methodref 42 48), (0, .nameAndType 49 50), (0, u "coderFromArrayLen"), (0, u "([BI)B"), (2, u "toBytes"), (53, .class_ 109), (1, u "java/lang/StringLatin1"), (32, u "()Z"), (34, .methodref 42 178), (0, .nameAndType 45 179), (0, u "([CII)[B"), (29, .methodref 10 210), (0, .nameAndType 5 211), (0, u "([BB)V"), (122, u "()I"), (0, .methodref 10 336), (0, .nameAndType 17 337), (0, u "()B"), (31, u "(C)Z"), (122, .methodref 10 493), (0, .nameAndType 494 142), (0, u "isLatin1"), (10, .methodref 10 506), (0, .nameAndType 507 334), (0, u "length"), (33, .methodref 107 542), (0, .nameAndType 543 544), (0, u "equals"), (0, u "([B[B)Z"), (28, u "(Ljava/lang/Object;)Z"), (1, .class_ 576), (0, u "java/lang/CharSequence"), (22, u "CASE_INSENSITIVE_ORDER"), (0, u "Ljava/util/Comparator;"), (30, u "([B)I"), (150, u "valueOf"), (0, u "(C)Ljava/lang/String;"), (92, .methodref 10 877), (0, .nameAndType 878 334), (0, u "indexOfNonWhitespace"), (45, .methodref 107 925), (0, .nameAndType 878 631), (26, u "isBlank"), (57, u "([C)V"), (4, .methodref 107 1016), (0, .nameAndType 1017 369), (0, u "canEncode"), (0, .methodref 107 1019), (0, .nameAndType 53 1020), (0, u "(C)[B"), (80, u "serialPersistentFields"), (0, u "[Ljava/io/ObjectStreamField;"), (0, .class_ 1104), (0, u "java/lang/String$CaseInsensitiveComparator"), (1, .class_ 1107), (0, u "java/io/Serializable"), (0, .class_ 1109), (0, u "java/lang/Comparable"), (0, .class_ 1111), (0, u "java/lang/constant/Constable"), (0, .class_ 1113), (0, u "java/lang/constant/ConstantDesc"), (2, u "serialVersionUID"), (0, u "J"), (3, u "REPL"), (0, u "C"), (2, u "LATIN1"), (1, u "UTF16")] 323

def k8m0 : Method := { name := "<init>", desc := "()V", sig := { parameters := [], returnType := none }, accessFlags := 1, code := none }
def k8c1 : Code := { maxStack := 5, maxLocals := 2, code := jdk_42_method_3_code, exceptionTable := #[], attributes := #[] }
def k8m1 : Method := { name := "<init>", desc := "([C)V", sig := { parameters := [(.array .char)], returnType := none }, accessFlags := 1, code := some k8c1 }
def k8c2 : Code := { maxStack := 2, maxLocals := 1, code := jdk_42_method_54_code, exceptionTable := #[], attributes := #[] }
def k8m2 : Method := { name := "length", desc := "()I", sig := { parameters := [], returnType := some .int }, accessFlags := 1, code := some k8c2 }
def k8c3 : Code := { maxStack := 2, maxLocals := 3, code := jdk_42_method_66_code, exceptionTable := #[], attributes := #[] }
def k8m3 : Method := { name := "equals", desc := "(Ljava/lang/Object;)Z", sig := { parameters := [(.object "java/lang/Object")], returnType := some .boolean }, accessFlags := 1, code := some k8c3 }
def k8c4 : Code := { maxStack := 2, maxLocals := 1, code := jdk_42_method_117_code, exceptionTable := #[], attributes := #[] }
def k8m4 : Method := { name := "isBlank", desc := "()Z", sig := { parameters := [], returnType := some .boolean }, accessFlags := 1, code := some k8c4 }
def k8c5 : Code := { maxStack := 1, maxLocals := 1, code := jdk_42_method_120_code, exceptionTable := #[], attributes := #[] }
def k8m5 : Method := { name := "indexOfNonWhitespace", desc := "()I", sig := { parameters := [], returnType := some .int }, accessFlags := 2, code := some k8c5 }
def k8c6 : Code := { maxStack := 4, maxLocals := 1, code := jdk_42_method_139_code, exceptionTable := #[], attributes := #[] }
def k8m6 : Method := { name := "valueOf", desc := "(C)Ljava/lang/String;", sig := { parameters := [.char], returnType := some (.object "java/lang/String") }, accessFlags := 9, code := some k8c6 }
def k8c7 : Code := { maxStack := 4, maxLocals := 6, code := jdk_42_method_149_code, exceptionTable := #[], attributes := #[] }
def k8m7 : Method := { name := "<init>", desc := "([CIILjava/lang/Void;)V", sig := { parameters := [(.array .char), .int, .int, (.object "java/lang/Void")], returnType := none }, accessFlags := 2, code := some k8c7 }
def k8c8 : Code := { maxStack := 2, maxLocals := 3, code := jdk_42_method_151_code, exceptionTable := #[], attributes := #[] }
def k8m8 : Method := { name := "<init>", desc := "([BB)V", sig := { parameters := [(.array .byte), .byte], returnType := none }, accessFlags := 0, code := some k8c8 }
def k8c9 : Code := { maxStack := 1, maxLocals := 1, code := jdk_42_method_152_code, exceptionTable := #[], attributes := #[] }
def k8m9 : Method := { name := "coder", desc := "()B", sig := { parameters := [], returnType := some .byte }, accessFlags := 0, code := some k8c9 }
def k8c10 : Code := { maxStack := 1, maxLocals := 1, code := jdk_42_method_154_code, exceptionTable := #[], attributes := #[] }
def k8m10 : Method := { name := "isLatin1", desc := "()Z", sig := { parameters := [], returnType := some .boolean }, accessFlags := 0, code := some k8c10 }
/-- java/lang/String -/
def k8 : Class := { plain "java/lang/String" (some 0) with
  accessFlags := 49
  interfaces := #[3, 4, 5, 6, 7]
  cf := some (fileOf pool8 10 #[.nestMembers #[1103]] #[{ accessFlags := 1, nameIndex := 5, descriptorIndex := 6, attributes := #[] }, { accessFlags := 1, nameIndex := 5, descriptorIndex := 1010, attributes := #[] }, { accessFlags := 1, nameIndex := 507, descriptorIndex := 334, attributes := #[] }, { accessFlags := 1, nameIndex := 543, descriptorIndex := 573, attributes := #[] }, { accessFlags := 1, nameIndex := 952, descriptorIndex := 142, attributes := #[] }, { accessFlags := 2, nameIndex := 878, descriptorIndex := 334, attributes := #[] }, { accessFlags := 9, nameIndex := 782, descriptorIndex := 783, attributes := #[] }, { accessFlags := 2, nameIndex := 5, descriptorIndex := 29, attributes := #[] }, { accessFlags := 0, nameIndex := 5, descriptorIndex := 211, attributes := #[] }, { accessFlags := 0, nameIndex := 17, descriptorIndex := 337, attributes := #[] }, { accessFlags := 0, nameIndex := 494, descriptorIndex := 142, attributes := #[] }] 49 2 #[1106, 1108, 575, 1110, 1112] #[{ accessFlags := 18, nameIndex := 13, descriptorIndex := 14, attributes := #[] }, { accessFlags := 18, nameIndex := 17, descriptorIndex := 18, attributes := #[] }, { accessFlags := 2, nameIndex := 21, descriptorIndex := 22, attributes := #[] }, { accessFlags := 2, nameIndex := 25, descriptorIndex := 26, attributes := #[] }, { accessFlags := 26, nameIndex := 1116, descriptorIndex := 1117, attributes := #[] }, { accessFlags := 24, nameIndex := 40, descriptorIndex := 26, attributes := #[] }, { accessFlags := 26, nameIndex := 1101, descriptorIndex := 1102, attributes := #[] }, { accessFlags := 26, nameIndex := 1121, descriptorIndex := 1122, attributes := #[] }, { accessFlags := 25, nameIndex := 599, descriptorIndex := 600, attributes := #[] }, { accessFlags := 24, nameIndex := 1125, descriptorIndex := 18, attributes := #[] }, { accessFlags := 24, nameIndex := 1127, descriptorIndex := 18, attributes := #[] }])
  fields := #[{ name := "value", type := (.array .byte), accessFlags := 18, slot := 0, constantValue := 0 }, { name := "coder", type := .byte, accessFlags := 18, slot := 1, constantValue := 0 }, { name := "hash", type := .int, accessFlags := 2, slot := 2, constantValue := 0 }, { name := "hashIsZero", type := .boolean, accessFlags := 2, slot := 3, constantValue := 0 }, { name := "serialVersionUID", type := .long, accessFlags := 26, slot := 0, constantValue := 0 }, { name := "COMPACT_STRINGS", type := .boolean, accessFlags := 24, slot := 1, constantValue := 0 }, { name := "serialPersistentFields", type := (.array (.object "java/io/ObjectStreamField")), accessFlags := 26, slot := 2, constantValue := 0 }, { name := "REPL", type := .char, accessFlags := 26, slot := 3, constantValue := 0 }, { name := "CASE_INSENSITIVE_ORDER", type := (.object "java/util/Comparator"), accessFlags := 25, slot := 4, constantValue := 0 }, { name := "LATIN1", type := .byte, accessFlags := 24, slot := 5, constantValue := 0 }, { name := "UTF16", type := .byte, accessFlags := 24, slot := 6, constantValue := 0 }]
  methods := #[k8m0, k8m1, k8m2, k8m3, k8m4, k8m5, k8m6, k8m7, k8m8, k8m9, k8m10]
  instanceTypes := #[(.array .byte), .byte, .int, .boolean]
  staticTypes := #[.long, .boolean, (.array (.object "java/io/ObjectStreamField")), .char, (.object "java/util/Comparator"), .byte, .byte]
  resolved := Array.replicate 1451 none
  statics := some 0 }

def pool9 : Array CpInfo := pool [(4, .class_ 6), (1, u "java/lang/Object"), (0, u "<init>"), (0, u "()V"), (5, .class_ 16), (1, u "java/lang/StringLatin1"), (33, .methodref 14 51), (0, .nameAndType 52 53), (0, u "getChar"), (0, u "([BI)C"), (3, u "([B)I"), (8, .fieldref 67 68), (0, .class_ 69), (0, .nameAndType 70 71), (0, u "java/lang/CharacterDataLatin1"), (0, u "instance"), (0, u "Ljava/lang/CharacterDataLatin1;"), (18, u "canEncode"), (0, u "(I)Z"), (13, u "(C)Z"), (15, u "$assertionsDisabled"), (0, u "Z"), (88, .methodref 67 212), (0, .nameAndType 213 91), (0, u "isWhitespace"), (2, u "indexOfNonWhitespace"), (4, .class_ 223), (1, u "java/lang/StringLatin1$LinesSpliterator"), (57, u "equals"), (0, u "([B[B)Z"), (97, u "toBytes"), (1, u "(C)[B"), (7, .class_ 391), (0, u "java/lang/StringLatin1$CharsSpliterator")] 3

def k9m0 : Method := { name := "<init>", desc := "()V", sig := { parameters := [], returnType := none }, accessFlags := 0, code := none }
def k9c1 : Code := { maxStack := 2, maxLocals := 1, code := jdk_43_method_3_code, exceptionTable := #[], attributes := #[] }
def k9m1 : Method := { name := "canEncode", desc := "(C)Z", sig := { parameters := [.char], returnType := some .boolean }, accessFlags := 9, code := some k9c1 }
def k9c2 : Code := { maxStack := 3, maxLocals := 3, code := jdk_43_method_13_code, exceptionTable := #[], attributes := #[] }
def k9m2 : Method := { name := "equals", desc := "([B[B)Z", sig := { parameters := [(.array .byte), (.array .byte)], returnType := some .boolean }, accessFlags := 9, code := some k9c2 }
def k9c3 : Code := { maxStack := 2, maxLocals := 4, code := jdk_43_method_37_code, exceptionTable := #[], attributes := #[] }
def k9m3 : Method := { name := "indexOfNonWhitespace", desc := "([B)I", sig := { parameters := [(.array .byte)], returnType := some .int }, accessFlags := 9, code := some k9c3 }
def k9c4 : Code := { maxStack := 2, maxLocals := 2, code := jdk_43_method_44_code, exceptionTable := #[], attributes := #[] }
def k9m4 : Method := { name := "getChar", desc := "([BI)C", sig := { parameters := [(.array .byte), .int], returnType := some .char }, accessFlags := 9, code := some k9c4 }
def k9c5 : Code := { maxStack := 4, maxLocals := 1, code := jdk_43_method_46_code, exceptionTable := #[], attributes := #[] }
def k9m5 : Method := { name := "toBytes", desc := "(C)[B", sig := { parameters := [.char], returnType := some (.array .byte) }, accessFlags := 9, code := some k9c5 }
/-- java/lang/StringLatin1 -/
def k9 : Class := { plain "java/lang/StringLatin1" (some 0) with
  accessFlags := 48
  interfaces := #[]
  cf := some (fileOf pool9 14 #[.nestMembers #[390, 221]] #[{ accessFlags := 0, nameIndex := 7, descriptorIndex := 8, attributes := #[] }, { accessFlags := 9, nameIndex := 90, descriptorIndex := 105, attributes := #[] }, { accessFlags := 9, nameIndex := 281, descriptorIndex := 282, attributes := #[] }, { accessFlags := 9, nameIndex := 216, descriptorIndex := 57, attributes := #[] }, { accessFlags := 9, nameIndex := 52, descriptorIndex := 53, attributes := #[] }, { accessFlags := 9, nameIndex := 380, descriptorIndex := 382, attributes := #[] }] 48 4 #[] #[{ accessFlags := 4120, nameIndex := 121, descriptorIndex := 122, attributes := #[] }])
  fields := #[{ name := "$assertionsDisabled", type := .boolean, accessFlags := 4120, slot := 0, constantValue := 0 }]
  methods := #[k9m0, k9m1, k9m2, k9m3, k9m4, k9m5]
  instanceTypes := #[]
  staticTypes := #[.boolean]
  resolved := Array.replicate 395 none
  statics := none }

def pool10 : Array CpInfo := pool [(1, .methodref 2 3), (0, .class_ 4), (0, .nameAndType 5 6), (0, u "java/lang/Object"), (0, u "<init>"), (0, u "()V"), (0, .methodref 8 9), (0, .class_ 10), (0, .nameAndType 11 12), (0, u "com/example/leasehold/leasehold/LeaseRequest"), (0, u "isValidHolder"), (0, u "(Ljava/lang/String;)Z"), (7, .methodref 8 21), (0, .nameAndType 22 23), (0, u "isValidTtl"), (0, u "(J)Z"), (9, .class_ 35), (1, u "java/lang/String"), (2, .fieldref 8 39), (0, .nameAndType 40 41), (0, u "holder"), (0, u "Ljava/lang/String;"), (0, .string 43), (0, u "Actor must not be null"), (0, .methodref 45 46), (0, .class_ 47), (0, .nameAndType 48 49), (0, u "java/util/Objects"), (0, u "requireNonNull"), (0, u "(Ljava/lang/Object;Ljava/lang/String;)Ljava/lang/Object;"), (0, .fieldref 8 51), (0, .nameAndType 52 41), (0, u "actor"), (0, .string 54), (0, u "Intent must not be null"), (0, .fieldref 8 56), (0, .nameAndType 57 41), (0, u "intent"), (0, .string 59), (0, u "Intent version must not be null"), (0, .fieldref 8 61), (0, .nameAndType 62 41), (0, u "intentVersion"), (0, .string 64), (0, u "Host id must not be null"), (0, .fieldref 8 66), (0, .nameAndType 67 41), (0, u "hostId"), (0, .fieldref 8 69), (0, .nameAndType 70 71), (0, u "pid"), (0, u "J"), (0, .fieldref 8 73), (0, .nameAndType 74 71), (0, u "ttlSeconds"), (0, .methodref 33 76), (0, .nameAndType 77 78), (0, u "isBlank"), (0, u "()Z"), (39, .methodref 33 119), (0, .nameAndType 120 121), (0, u "equals"), (0, u "(Ljava/lang/Object;)Z"), (2, u "(Ljava/lang/String;Ljava/lang/String;Ljava/lang/String;Ljava/lang/String;Ljava/lang/String;JJ)V"), (0, u "MAX_RECORDED_BYTES"), (0, u "I"), (9, u "hasTermsOf"), (0, u "(Lcom/example/leasehold/leasehold/LeaseRequest;)Z")] 4

def k10c0 : Code := { maxStack := 8, maxLocals := 10, code := prog_13_method_1_code, exceptionTable := #[], attributes := #[] }
def k10m0 : Method := { name := "<init>", desc := "(Ljava/lang/String;Ljava/lang/String;Ljava/lang/String;Ljava/lang/String;Ljava/lang/String;JJ)V", sig := { parameters := [(.object "java/lang/String"), (.object "java/lang/String"), (.object "java/lang/String"), (.object "java/lang/String"), (.object "java/lang/String"), .long, .long], returnType := none }, accessFlags := 0, code := some k10c0 }
def k10c1 : Code := { maxStack := 1, maxLocals := 1, code := prog_13_method_2_code, exceptionTable := #[], attributes := #[] }
def k10m1 : Method := { name := "isValidHolder", desc := "(Ljava/lang/String;)Z", sig := { parameters := [(.object "java/lang/String")], returnType := some .boolean }, accessFlags := 8, code := some k10c1 }
def k10c2 : Code := { maxStack := 4, maxLocals := 2, code := prog_13_method_3_code, exceptionTable := #[], attributes := #[] }
def k10m2 : Method := { name := "isValidTtl", desc := "(J)Z", sig := { parameters := [.long], returnType := some .boolean }, accessFlags := 8, code := some k10c2 }
def k10c3 : Code := { maxStack := 4, maxLocals := 2, code := prog_13_method_8_code, exceptionTable := #[], attributes := #[] }
def k10m3 : Method := { name := "hasTermsOf", desc := "(Lcom/example/leasehold/leasehold/LeaseRequest;)Z", sig := { parameters := [(.object "com/example/leasehold/leasehold/LeaseRequest")], returnType := some .boolean }, accessFlags := 0, code := some k10c3 }
/-- com/example/leasehold/leasehold/LeaseRequest -/
def k10 : Class := { plain "com/example/leasehold/leasehold/LeaseRequest" (some 0) with
  accessFlags := 48
  interfaces := #[]
  cf := some (fileOf pool10 8 #[] #[{ accessFlags := 0, nameIndex := 5, descriptorIndex := 124, attributes := #[] }, { accessFlags := 8, nameIndex := 11, descriptorIndex := 12, attributes := #[] }, { accessFlags := 8, nameIndex := 22, descriptorIndex := 23, attributes := #[] }, { accessFlags := 0, nameIndex := 136, descriptorIndex := 137, attributes := #[] }] 48 2 #[] #[{ accessFlags := 24, nameIndex := 125, descriptorIndex := 126, attributes := #[] }, { accessFlags := 18, nameIndex := 40, descriptorIndex := 41, attributes := #[] }, { accessFlags := 18, nameIndex := 52, descriptorIndex := 41, attributes := #[] }, { accessFlags := 18, nameIndex := 57, descriptorIndex := 41, attributes := #[] }, { accessFlags := 18, nameIndex := 62, descriptorIndex := 41, attributes := #[] }, { accessFlags := 18, nameIndex := 67, descriptorIndex := 41, attributes := #[] }, { accessFlags := 18, nameIndex := 70, descriptorIndex := 71, attributes := #[] }, { accessFlags := 18, nameIndex := 74, descriptorIndex := 71, attributes := #[] }])
  fields := #[{ name := "MAX_RECORDED_BYTES", type := .int, accessFlags := 24, slot := 0, constantValue := 0 }, { name := "holder", type := (.object "java/lang/String"), accessFlags := 18, slot := 0, constantValue := 0 }, { name := "actor", type := (.object "java/lang/String"), accessFlags := 18, slot := 1, constantValue := 0 }, { name := "intent", type := (.object "java/lang/String"), accessFlags := 18, slot := 2, constantValue := 0 }, { name := "intentVersion", type := (.object "java/lang/String"), accessFlags := 18, slot := 3, constantValue := 0 }, { name := "hostId", type := (.object "java/lang/String"), accessFlags := 18, slot := 4, constantValue := 0 }, { name := "pid", type := .long, accessFlags := 18, slot := 5, constantValue := 0 }, { name := "ttlSeconds", type := .long, accessFlags := 18, slot := 6, constantValue := 0 }]
  methods := #[k10m0, k10m1, k10m2, k10m3]
  instanceTypes := #[(.object "java/lang/String"), (.object "java/lang/String"), (.object "java/lang/String"), (.object "java/lang/String"), (.object "java/lang/String"), .long, .long]
  staticTypes := #[.int]
  resolved := Array.replicate 142 none
  statics := none }

def pool11 : Array CpInfo := pool [(2, .class_ 4), (1, u "java/lang/Object"), (0, u "<init>"), (0, u "()V"), (1, .class_ 10), (1, u "java/lang/CharacterData")] 75

def k11m0 : Method := { name := "<init>", desc := "()V", sig := { parameters := [], returnType := none }, accessFlags := 0, code := none }
/-- java/lang/CharacterData -/
def k11 : Class := { plain "java/lang/CharacterData" (some 0) with
  accessFlags := 1056
  interfaces := #[]
  cf := some (fileOf pool11 8 #[] #[{ accessFlags := 0, nameIndex := 5, descriptorIndex := 6, attributes := #[] }] 1056 2 #[] #[])
  fields := #[]
  methods := #[k11m0]
  instanceTypes := #[]
  staticTypes := #[]
  resolved := Array.replicate 86 none
  statics := none }

def pool12 : Array CpInfo := pool [(1, .fieldref 2 3), (0, .class_ 4), (0, .nameAndType 5 6), (0, u "java/lang/CharacterDataLatin1"), (0, u "A"), (0, u "[I"), (2, u "B"), (0, u "[C"), (3, u "(I)I"), (0, .methodref 2 16), (0, .nameAndType 17 14), (0, u "getProperties"), (3, u "(I)Z"), (5, u "DIGITS"), (0, u "[B"), (8, u "sharpsMap"), (1, .class_ 41), (1, u "java/lang/CharacterData"), (0, u "<init>"), (0, u "()V"), (3, u "instance"), (0, u "Ljava/lang/CharacterDataLatin1;"), (78, u "isWhitespace")] 13

def k12c0 : Code := { maxStack := 2, maxLocals := 4, code := jdk_116_method_1_code, exceptionTable := #[], attributes := #[] }
def k12m0 : Method := { name := "getProperties", desc := "(I)I", sig := { parameters := [.int], returnType := some .int }, accessFlags := 0, code := some k12c0 }
def k12c1 : Code := { maxStack := 2, maxLocals := 3, code := jdk_116_method_26_code, exceptionTable := #[], attributes := #[] }
def k12m1 : Method := { name := "isWhitespace", desc := "(I)Z", sig := { parameters := [.int], returnType := some .boolean }, accessFlags := 0, code := some k12c1 }
def k12m2 : Method := { name := "<init>", desc := "()V", sig := { parameters := [], returnType := none }, accessFlags := 2, code := none }
/-- java/lang/CharacterDataLatin1 -/
def k12 : Class := { plain "java/lang/CharacterDataLatin1" (some 11) with
  accessFlags := 32
  interfaces := #[]
  cf := some (fileOf pool12 2 #[] #[{ accessFlags := 0, nameIndex := 17, descriptorIndex := 14, attributes := #[] }, { accessFlags := 0, nameIndex := 127, descriptorIndex := 21, attributes := #[] }, { accessFlags := 2, nameIndex := 42, descriptorIndex := 43, attributes := #[] }] 32 39 #[] #[{ accessFlags := 26, nameIndex := 27, descriptorIndex := 28, attributes := #[] }, { accessFlags := 8, nameIndex := 37, descriptorIndex := 10, attributes := #[] }, { accessFlags := 24, nameIndex := 47, descriptorIndex := 48, attributes := #[] }, { accessFlags := 24, nameIndex := 5, descriptorIndex := 6, attributes := #[] }, { accessFlags := 24, nameIndex := 9, descriptorIndex := 10, attributes := #[] }])
  fields := #[{ name := "DIGITS", type := (.array .byte), accessFlags := 26, slot := 0, constantValue := 0 }, { name := "sharpsMap", type := (.array .char), accessFlags := 8, slot := 1, constantValue := 0 }, { name := "instance", type := (.object "java/lang/CharacterDataLatin1"), accessFlags := 24, slot := 2, constantValue := 0 }, { name := "A", type := (.array .int), accessFlags := 24, slot := 3, constantValue := 0 }, { name := "B", type := (.array .char), accessFlags := 24, slot := 4, constantValue := 0 }]
  methods := #[k12m0, k12m1, k12m2]
  instanceTypes := #[]
  staticTypes := #[(.array .byte), (.array .char), (.object "java/lang/CharacterDataLatin1"), (.array .int), (.array .char)]
  resolved := Array.replicate 141 none
  statics := some 1 }

def pool13 : Array CpInfo := pool [(2, .class_ 4), (1, u "java/lang/Object"), (0, u "<init>"), (0, u "()V"), (35, .class_ 44), (1, u "java/util/Objects"), (0, u "requireNonNull"), (48, u "(Ljava/lang/Object;Ljava/lang/String;)Ljava/lang/Object;")] 89

def k13m0 : Method := { name := "<init>", desc := "()V", sig := { parameters := [], returnType := none }, accessFlags := 2, code := none }
def k13c1 : Code := { maxStack := 3, maxLocals := 2, code := jdk_31_method_11_code, exceptionTable := #[], attributes := #[] }
def k13m1 : Method := { name := "requireNonNull", desc := "(Ljava/lang/Object;Ljava/lang/String;)Ljava/lang/Object;", sig := { parameters := [(.object "java/lang/Object"), (.object "java/lang/String")], returnType := some (.object "java/lang/Object") }, accessFlags := 9, code := some k13c1 }
/-- java/util/Objects -/
def k13 : Class := { plain "java/util/Objects" (some 0) with
  accessFlags := 49
  interfaces := #[]
  cf := some (fileOf pool13 42 #[] #[{ accessFlags := 2, nameIndex := 5, descriptorIndex := 6, attributes := #[] }, { accessFlags := 9, nameIndex := 45, descriptorIndex := 94, attributes := #[] }] 49 2 #[] #[])
  fields := #[]
  methods := #[k13m0, k13m1]
  instanceTypes := #[]
  staticTypes := #[]
  resolved := Array.replicate 184 none
  statics := none }

def pool14 : Array CpInfo := pool [(6, .class_ 8), (1, u "java/lang/Object"), (0, u "<init>"), (0, u "()V"), (1, .class_ 14), (1, u "java/lang/StringUTF16"), (31, u "$assertionsDisabled"), (0, u "Z"), (13, u "HI_BYTE_SHIFT"), (0, u "I"), (2, u "LO_BYTE_SHIFT"), (49, .methodref 12 116), (0, .nameAndType 117 118), (0, u "compress"), (0, u "([CI[BII)I"), (3, u "([CII)[B"), (138, u "coderFromArrayLen"), (0, u "([BI)B"), (106, .class_ 371), (1, u "java/lang/StringUTF16$LinesSpliterator"), (58, u "MAX_LENGTH"), (196, .class_ 628), (0, u "java/lang/StringUTF16$CodePointsSpliterator"), (0, .class_ 630), (0, u "java/lang/StringUTF16$CharsSpliterator")] 4

def k14m0 : Method := { name := "<init>", desc := "()V", sig := { parameters := [], returnType := none }, accessFlags := 0, code := none }
def k14c1 : Code := { maxStack := 2, maxLocals := 2, code := jdk_52_method_15_code, exceptionTable := #[], attributes := #[] }
def k14m1 : Method := { name := "coderFromArrayLen", desc := "([BI)B", sig := { parameters := [(.array .byte), .int], returnType := some .byte }, accessFlags := 8, code := some k14c1 }
def k14c2 : Code := { maxStack := 5, maxLocals := 6, code := jdk_52_method_16_code, exceptionTable := #[], attributes := #[] }
def k14m2 : Method := { name := "compress", desc := "([CII)[B", sig := { parameters := [(.array .char), .int, .int], returnType := some (.array .byte) }, accessFlags := 9, code := some k14c2 }
def k14c3 : Code := { maxStack := 3, maxLocals := 7, code := jdk_52_method_21_code, exceptionTable := #[], attributes := #[] }
def k14m3 : Method := { name := "compress", desc := "([CI[BII)I", sig := { parameters := [(.array .char), .int, (.array .byte), .int, .int], returnType := some .int }, accessFlags := 9, code := some k14c3 }
/-- java/lang/StringUTF16 -/
def k14 : Class := { plain "java/lang/StringUTF16" (some 0) with
  accessFlags := 48
  interfaces := #[]
  cf := some (fileOf pool14 12 #[.nestMembers #[627, 629, 369]] #[{ accessFlags := 0, nameIndex := 9, descriptorIndex := 10, attributes := #[] }, { accessFlags := 8, nameIndex := 261, descriptorIndex := 262, attributes := #[] }, { accessFlags := 9, nameIndex := 117, descriptorIndex := 122, attributes := #[] }, { accessFlags := 9, nameIndex := 117, descriptorIndex := 118, attributes := #[] }] 48 6 #[] #[{ accessFlags := 26, nameIndex := 61, descriptorIndex := 62, attributes := #[] }, { accessFlags := 26, nameIndex := 65, descriptorIndex := 62, attributes := #[] }, { accessFlags := 24, nameIndex := 430, descriptorIndex := 62, attributes := #[] }, { accessFlags := 4120, nameIndex := 46, descriptorIndex := 47, attributes := #[] }])
  fields := #[{ name := "HI_BYTE_SHIFT", type := .int, accessFlags := 26, slot := 0, constantValue := 0 }, { name := "LO_BYTE_SHIFT", type := .int, accessFlags := 26, slot := 1, constantValue := 0 }, { name := "MAX_LENGTH", type := .int, accessFlags := 24, slot := 2, constantValue := 0 }, { name := "$assertionsDisabled", type := .boolean, accessFlags := 4120, slot := 3, constantValue := 0 }]
  methods := #[k14m0, k14m1, k14m2, k14m3]
  instanceTypes := #[]
  staticTypes := #[.int, .int, .int, .boolean]
  resolved := Array.replicate 635 none
  statics := none }

def pool15 : Array CpInfo := pool [(2, .class_ 4), (1, u "java/lang/Object"), (0, u "<init>"), (0, u "()V"), (17, .class_ 26), (1, u "jdk/internal/util/Preconditions"), (28, .class_ 56), (0, u "jdk/internal/util/Preconditions$4"), (57, .class_ 115), (0, u "jdk/internal/util/Preconditions$1"), (7, u "SIOOBE_FORMATTER"), (0, u "Ljava/util/function/BiFunction;"), (0, .class_ 126), (0, u "jdk/internal/util/Preconditions$2"), (3, u "AIOOBE_FORMATTER"), (0, .class_ 132), (0, u "jdk/internal/util/Preconditions$3"), (3, u "IOOBE_FORMATTER")] 57

def k15m0 : Method := { name := "<init>", desc := "()V", sig := { parameters := [], returnType := none }, accessFlags := 1, code := none }
/-- jdk/internal/util/Preconditions -/
def k15 : Class := { plain "jdk/internal/util/Preconditions" (some 0) with
  accessFlags := 33
  interfaces := #[]
  cf := some (fileOf pool15 24 #[.nestMembers #[55, 131, 125, 114]] #[{ accessFlags := 1, nameIndex := 5, descriptorIndex := 6, attributes := #[] }] 33 2 #[] #[{ accessFlags := 25, nameIndex := 123, descriptorIndex := 124, attributes := #[] }, { accessFlags := 25, nameIndex := 130, descriptorIndex := 124, attributes := #[] }, { accessFlags := 25, nameIndex := 136, descriptorIndex := 124, attributes := #[] }])
  fields := #[{ name := "SIOOBE_FORMATTER", type := (.object "java/util/function/BiFunction"), accessFlags := 25, slot := 0, constantValue := 0 }, { name := "AIOOBE_FORMATTER", type := (.object "java/util/function/BiFunction"), accessFlags := 25, slot := 1, constantValue := 0 }, { name := "IOOBE_FORMATTER", type := (.object "java/util/function/BiFunction"), accessFlags := 25, slot := 2, constantValue := 0 }]
  methods := #[k15m0]
  instanceTypes := #[]
  staticTypes := #[(.object "java/util/function/BiFunction"), (.object "java/util/function/BiFunction"), (.object "java/util/function/BiFunction")]
  resolved := Array.replicate 194 none
  statics := some 2 }

def pool16 : Array CpInfo := pool [(1, u "java/lang/Cloneable"), (0, .class_ 1), (0, u "java/lang/Object"), (0, .class_ 3)] 3

/-- java/lang/Cloneable -/
def k16 : Class := { plain "java/lang/Cloneable" (some 0) with
  accessFlags := 1537
  interfaces := #[]
  cf := some (fileOf pool16 2 #[] #[] 1537 4 #[] #[])
  fields := #[]
  methods := #[]
  instanceTypes := #[]
  staticTypes := #[]
  resolved := Array.replicate 8 none
  statics := none }

/-- the primitive byte -/
def k17 : Class := { plain "byte" none with kind := .primitive 'B', accessFlags := 0x411 }
/-- [B -/
def k18 : Class := { plain "[B" (some 0) with kind := .array 17 .byte, interfaces := #[16, 3], accessFlags := 1041 }

/-- the primitive char -/
def k19 : Class := { plain "char" none with kind := .primitive 'C', accessFlags := 0x411 }
/-- [C -/
def k20 : Class := { plain "[C" (some 0) with kind := .array 19 .char, interfaces := #[16, 3], accessFlags := 1041 }

/-- the primitive int -/
def k21 : Class := { plain "int" none with kind := .primitive 'I', accessFlags := 0x411 }
/-- [I -/
def k22 : Class := { plain "[I" (some 0) with kind := .array 21 .int, interfaces := #[16, 3], accessFlags := 1041 }

def heap : Heap := #[{ cls := 8, slots := #[.long 0, .int 1, .null, .int 0, .null, .int 0, .int 0], vm := .statics 8 },
  { cls := 12, slots := #[.null, .null, .ref 3, .ref 4, .null], vm := .statics 12 },
  { cls := 15, slots := #[.null, .null, .null], vm := .statics 15 },
  { cls := 12, slots := #[], vm := .none },
  { cls := 22, slots := #[.int 1207963663, .int 1207963663, .int 1207963663, .int 1207963663, .int 1207963663, .int 1207963663, .int 1207963663, .int 1207963663, .int 1207963663, .int 1476411407, .int 1342193679, .int 1476411407, .int 1610629135, .int 1342193679, .int 1207963663, .int 1207963663, .int 1207963663, .int 1207963663, .int 1207963663, .int 1207963663, .int 1207963663, .int 1207963663, .int 1207963663, .int 1207963663, .int 1207963663, .int 1207963663, .int 1207963663, .int 1207963663, .int 1342193679, .int 1342193679, .int 1342193679, .int 1476411407, .int 1610629132, .int 1744830488, .int 1744830488, .int 671088664, .int 671113242, .int 671088664, .int 1744830488, .int 1744830488, .int (-402653163), .int (-402653162), .int 1744830488, .int 536870937, .int 939524120, .int 536870932, .int 939524120, .int 939524120, .int 402667017, .int 402667017, .int 402667017, .int 402667017, .int 402667017, .int 402667017, .int 402667017, .int 402667017, .int 402667017, .int 402667017, .int 939524120, .int 1744830488, .int (-402653159), .int 1744830489, .int (-402653159), .int 1744830488, .int 1744830488, .int 8552417, .int 8552417, .int 8552417, .int 8552417, .int 8552417, .int 8552417, .int 8552417, .int 8552417, .int 8552417, .int 8552417, .int 8552417, .int 8552417, .int 8552417, .int 8552417, .int 8552417, .int 8552417, .int 8552417, .int 8552417, .int 8552417, .int 8552417, .int 8552417, .int 8552417, .int 8552417, .int 8552417, .int 8552417, .int 8552417, .int (-402653163), .int 1744830488, .int (-402653162), .int 1744830491, .int 1744850967, .int 1744830491, .int 8486882, .int 8486882, .int 8486882, .int 8486882, .int 8486882, .int 8486882, .int 8486882, .int 8486882, .int 8486882, .int 8486882, .int 8486882, .int 8486882, .int 8486882, .int 8486882, .int 8486882, .int 8486882, .int 8486882, .int 8486882, .int 8486882, .int 8486882, .int 8486882, .int 8486882, .int 8486882, .int 8486882, .int 8486882, .int 8486882, .int (-402653163), .int 1744830489, .int (-402653162), .int 1744830489, .int 1207963663, .int 1207963663, .int 1207963663, .int 1207963663, .int 1207963663, .int 1207963663, .int 1342181391, .int 1207963663, .int 1207963663, .int 1207963663, .int 1207963663, .int 1207963663, .int 1207963663, .int 1207963663, .int 1207963663, .int 1207963663, .int 1207963663, .int 1207963663, .int 1207963663, .int 1207963663, .int 1207963663, .int 1207963663, .int 1207963663, .int 1207963663, .int 1207963663, .int 1207963663, .int 1207963663, .int 1207963663, .int 1207963663, .int 1207963663, .int 1207963663, .int 1207963663, .int 1207963663, .int 939524108, .int 1744830488, .int 671113242, .int 671113242, .int 671113242, .int 671113242, .int 1744830492, .int 1744830488, .int 1744830491, .int 1744830492, .int 28677, .int (-402653155), .int 1744830489, .int 1207963664, .int 1744830492, .int 1744830491, .int 671088668, .int 671088665, .int 402654731, .int 402654731, .int 1744830491, .int 134049794, .int 1744830488, .int 1744830488, .int 1744830491, .int 402654475, .int 28677, .int (-402653154), .int 1744832523, .int 1744832523, .int 1744832523, .int 1744830488, .int 8548353, .int 8548353, .int 8548353, .int 8548353, .int 8548353, .int 8548353, .int 8548353, .int 8548353, .int 8548353, .int 8548353, .int 8548353, .int 8548353, .int 8548353, .int 8548353, .int 8548353, .int 8548353, .int 8548353, .int 8548353, .int 8548353, .int 8548353, .int 8548353, .int 8548353, .int 8548353, .int 1744830489, .int 8548353, .int 8548353, .int 8548353, .int 8548353, .int 8548353, .int 8548353, .int 8548353, .int 134049794, .int 8482818, .int 8482818, .int 8482818, .int 8482818, .int 8482818, .int 8482818, .int 8482818, .int 8482818, .int 8482818, .int 8482818, .int 8482818, .int 8482818, .int 8482818, .int 8482818, .int 8482818, .int 8482818, .int 8482818, .int 8482818, .int 8482818, .int 8482818, .int 8482818, .int 8482818, .int 8482818, .int 1744830489, .int 8482818, .int 8482818, .int 8482818, .int 8482818, .int 8482818, .int 8482818, .int 8482818, .int 102592514], vm := .none }]
def classes : Array Class := #[k0, k1, k2, k3, k4, k5, k6, k7, k8, k9, k10, k11, k12, k13, k14, k15, k16, k17, k18, k19, k20, k21, k22, plain "jdk/internal/util/ArraysSupport" (some 0)]
def interned : List (Array UInt16 × Addr) := []
def slotsUsed : Nat := 271
def theMethod : MethodId := ⟨1, 2⟩
def args0 : Array Value := #[.int 5, .int 7, .long 3, .long 1, .long 3, .long 1]
def aboutOver (below : List Frame) : State where
  vm := { classes := classes, interned := interned.toArray }
  heap := heap
  slotsUsed := slotsUsed
  threads := #[{ frames := .invoking theMethod args0 :: below }]
def below0 : List Frame := [.native { method := ⟨0, 0⟩, args := #[] }]
def about1 : State := aboutOver below0
def p0 : Program := .bare "" "" ""
def e0 : Env := launch0.env 0 0 0
theorem w_frames : about1.frames = Frame.invoking theMethod args0 :: below0 := rfl
set_option maxRecDepth 65536 in
theorem w_args : argsFit about1.vm theMethod args0 = true := by decide +kernel
set_option maxRecDepth 65536 in
theorem w_heap : heapFits about1 = true := by decide +kernel
set_option maxRecDepth 65536 in
theorem w_runnable : about1.curStatus? = some .runnable := by decide +kernel
set_option maxRecDepth 65536 in
theorem w_alone : about1.alone = true := by decide +kernel
set_option maxRecDepth 65536 in
theorem w_named : about1.methodNamed? x = some theMethod := by decide +kernel
set_option maxRecDepth 65536 in
theorem w_hears : about1.hears theMethod below0 = true := by decide +kernel
set_option maxRecDepth 65536 in
theorem w_ripe : about1.ripe theMethod args0 below0 = true := by decide +kernel
theorem w_running : about1.status = .running := rfl
set_option maxRecDepth 65536 in
theorem w_room : about1.hasRoom e0.platform room_1 = true :=
  launch0.hasRoom_least _ room_1 (by decide +kernel) (by decide +kernel) (by decide +kernel) (by decide +kernel) (by decide +kernel) (by decide +kernel)
theorem allAtoms_all (ts : List Jvm.Cond) (a : Array Jvm.Value) (st : Jvm.State) : (allAtoms ts).before a st = ts.all (fun c => c.before a st) := by
  induction ts with
  | nil => rfl
  | cons c t ih =>
    show (Jvm.Cond.and c (allAtoms t)).before a st = _
    rw [Jvm.Cond.before_and, ih, List.all_cons]
def words1 : List Jvm.Cond := Jvm.Cond.code x code maxLocals ret :: tables_1
/-- a 'code' word, met by the world's own term for the bytes: nothing is compared byte by byte -/
theorem code_word {y : MethodName} {bytes : ByteArray} {mx : Nat} {rt : Option FieldType} {a : Array Value} {s : State} {m : MethodId} {meth : Method} {c : Code} (h1 : s.methodNamed? y = some m) (h2 : s.vm.method? m = some meth) (h3 : meth.code = some c) (h4 : c.code = bytes)
    (h5 : (c.maxLocals == mx && c.exceptionTable.isEmpty && decide (c.maxStack ≤ mostOperands) && decide (meth.sig.returnType = rt) && !meth.locks && decide (parseMethodDescriptor y.desc = some meth.sig)) = true) : (Jvm.Cond.code y bytes mx rt).before a s = true := by
  simp only [Bool.and_eq_true, beq_iff_eq, Bool.not_eq_true', decide_eq_true_eq] at h5
  obtain ⟨⟨⟨⟨⟨g1, g2⟩, g3⟩, g4⟩, g5⟩, g6⟩ := h5
  simp [Cond.before, Cond.holds, Cond.value, h1, h2, h3, h4, g1, g2, g3, g4, g5, g6]
def isCode : Jvm.Cond → Bool
  | .code _ _ _ _ => true
  | _ => false
theorem all_split {L : List Jvm.Cond} {P : Jvm.Cond → Bool} (h1 : L.all (fun c => isCode c || P c) = true) (h2 : ∀ c ∈ L.filter isCode, P c = true) : L.all P = true := by
  refine List.all_eq_true.mpr fun c hc => ?_
  have h := List.all_eq_true.mp h1 c hc
  rcases Bool.eq_false_or_eq_true (isCode c) with hi | hi
  · exact h2 c (List.mem_filter.mpr ⟨hc, hi⟩)
  · simpa [hi] using h
set_option maxRecDepth 65536 in
theorem w_c0 : (Jvm.Cond.code x code maxLocals ret).before args0 about1 = true := code_word (m := ⟨1, 2⟩) (meth := k1m2) (c := k1c2) (by decide +kernel) rfl rfl rfl (by decide +kernel)
set_option maxRecDepth 65536 in
theorem w_c1 : (Jvm.Cond.code ({ cls := "java/lang/Math", name := "max", desc := "(JJ)J" } : Jvm.MethodName) jdk_29_method_66_code (4 : Nat) (Option.some Jvm.ClassFile.FieldType.long)).before args0 about1 = true := code_word (m := ⟨2, 1⟩) (meth := k2m1) (c := k2c1) (by decide +kernel) rfl rfl rfl (by decide +kernel)
set_option maxRecDepth 65536 in
theorem w_c2 : (Jvm.Cond.code ({ cls := "com/example/leasehold/leasehold/LeaseRequestHasTermsOfPinLaw", name := "str", desc := "(I)Ljava/lang/String;" } : Jvm.MethodName) method_2_code (2 : Nat) (Option.some (Jvm.ClassFile.FieldType.object "java/lang/String"))).before args0 about1 = true := code_word (m := ⟨1, 1⟩) (meth := k1m1) (c := k1c1) (by decide +kernel) rfl rfl rfl (by decide +kernel)
set_option maxRecDepth 65536 in
theorem w_c3 : (Jvm.Cond.code ({ cls := "java/lang/String", name := "valueOf", desc := "(C)Ljava/lang/String;" } : Jvm.MethodName) jdk_42_method_139_code (1 : Nat) (Option.some (Jvm.ClassFile.FieldType.object "java/lang/String"))).before args0 about1 = true := code_word (m := ⟨8, 6⟩) (meth := k8m6) (c := k8c6) (by decide +kernel) rfl rfl rfl (by decide +kernel)
set_option maxRecDepth 65536 in
theorem w_c4 : (Jvm.Cond.code ({ cls := "java/lang/StringLatin1", name := "canEncode", desc := "(C)Z" } : Jvm.MethodName) jdk_43_method_3_code (1 : Nat) (Option.some Jvm.ClassFile.FieldType.boolean)).before args0 about1 = true := code_word (m := ⟨9, 1⟩) (meth := k9m1) (c := k9c1) (by decide +kernel) rfl rfl rfl (by decide +kernel)
set_option maxRecDepth 65536 in
theorem w_c5 : (Jvm.Cond.code ({ cls := "java/lang/StringLatin1", name := "toBytes", desc := "(C)[B" } : Jvm.MethodName) jdk_43_method_46_code (1 : Nat) (Option.some (Jvm.ClassFile.FieldType.array Jvm.ClassFile.FieldType.byte))).before args0 about1 = true := code_word (m := ⟨9, 5⟩) (meth := k9m5) (c := k9c5) (by decide +kernel) rfl rfl rfl (by decide +kernel)
set_option maxRecDepth 65536 in
theorem w_c6 : (Jvm.Cond.code ({ cls := "java/lang/String", name := "<init>", desc := "([BB)V" } : Jvm.MethodName) jdk_42_method_151_code (3 : Nat) (Option.none : Option Jvm.ClassFile.FieldType)).before args0 about1 = true := code_word (m := ⟨8, 8⟩) (meth := k8m8) (c := k8c8) (by decide +kernel) rfl rfl rfl (by decide +kernel)
set_option maxRecDepth 65536 in
theorem w_c7 : (Jvm.Cond.code ({ cls := "java/lang/Object", name := "<init>", desc := "()V" } : Jvm.MethodName) object_method_1_code (1 : Nat) (Option.none : Option Jvm.ClassFile.FieldType)).before args0 about1 = true := code_word (m := ⟨0, 0⟩) (meth := k0m0) (c := k0c0) (by decide +kernel) rfl rfl rfl (by decide +kernel)
set_option maxRecDepth 65536 in
theorem w_c8 : (Jvm.Cond.code ({ cls := "com/example/leasehold/leasehold/LeaseRequest", name := "<init>", desc := "(Ljava/lang/String;Ljava/lang/String;Ljava/lang/String;Ljava/lang/String;Ljava/lang/String;JJ)V" } : Jvm.MethodName) prog_13_method_1_code (10 : Nat) (Option.none : Option Jvm.ClassFile.FieldType)).before args0 about1 = true := code_word (m := ⟨10, 0⟩) (meth := k10m0) (c := k10c0) (by decide +kernel) rfl rfl rfl (by decide +kernel)
set_option maxRecDepth 65536 in
theorem w_c9 : (Jvm.Cond.code ({ cls := "com/example/leasehold/leasehold/LeaseRequest", name := "isValidHolder", desc := "(Ljava/lang/String;)Z" } : Jvm.MethodName) prog_13_method_2_code (1 : Nat) (Option.some Jvm.ClassFile.FieldType.boolean)).before args0 about1 = true := code_word (m := ⟨10, 1⟩) (meth := k10m1) (c := k10c1) (by decide +kernel) rfl rfl rfl (by decide +kernel)
set_option maxRecDepth 65536 in
theorem w_c10 : (Jvm.Cond.code ({ cls := "java/lang/String", name := "isBlank", desc := "()Z" } : Jvm.MethodName) jdk_42_method_117_code (1 : Nat) (Option.some Jvm.ClassFile.FieldType.boolean)).before args0 about1 = true := code_word (m := ⟨8, 4⟩) (meth := k8m4) (c := k8c4) (by decide +kernel) rfl rfl rfl (by decide +kernel)
set_option maxRecDepth 65536 in
theorem w_c11 : (Jvm.Cond.code ({ cls := "java/lang/String", name := "indexOfNonWhitespace", desc := "()I" } : Jvm.MethodName) jdk_42_method_120_code (1 : Nat) (Option.some Jvm.ClassFile.FieldType.int)).before args0 about1 = true := code_word (m := ⟨8, 5⟩) (meth := k8m5) (c := k8c5) (by decide +kernel) rfl rfl rfl (by decide +kernel)
set_option maxRecDepth 65536 in
theorem w_c12 : (Jvm.Cond.code ({ cls := "java/lang/String", name := "isLatin1", desc := "()Z" } : Jvm.MethodName) jdk_42_method_154_code (1 : Nat) (Option.some Jvm.ClassFile.FieldType.boolean)).before args0 about1 = true := code_word (m := ⟨8, 10⟩) (meth := k8m10) (c := k8c10) (by decide +kernel) rfl rfl rfl (by decide +kernel)
set_option maxRecDepth 65536 in
theorem w_c13 : (Jvm.Cond.code ({ cls := "java/lang/StringLatin1", name := "indexOfNonWhitespace", desc := "([B)I" } : Jvm.MethodName) jdk_43_method_37_code (4 : Nat) (Option.some Jvm.ClassFile.FieldType.int)).before args0 about1 = true := code_word (m := ⟨9, 3⟩) (meth := k9m3) (c := k9c3) (by decide +kernel) rfl rfl rfl (by decide +kernel)
set_option maxRecDepth 65536 in
theorem w_c14 : (Jvm.Cond.code ({ cls := "java/lang/StringLatin1", name := "getChar", desc := "([BI)C" } : Jvm.MethodName) jdk_43_method_44_code (2 : Nat) (Option.some Jvm.ClassFile.FieldType.char)).before args0 about1 = true := code_word (m := ⟨9, 4⟩) (meth := k9m4) (c := k9c4) (by decide +kernel) rfl rfl rfl (by decide +kernel)
set_option maxRecDepth 65536 in
theorem w_c15 : (Jvm.Cond.code ({ cls := "java/lang/CharacterDataLatin1", name := "isWhitespace", desc := "(I)Z" } : Jvm.MethodName) jdk_116_method_26_code (3 : Nat) (Option.some Jvm.ClassFile.FieldType.boolean)).before args0 about1 = true := code_word (m := ⟨12, 1⟩) (meth := k12m1) (c := k12c1) (by decide +kernel) rfl rfl rfl (by decide +kernel)
set_option maxRecDepth 65536 in
theorem w_c16 : (Jvm.Cond.code ({ cls := "java/lang/CharacterDataLatin1", name := "getProperties", desc := "(I)I" } : Jvm.MethodName) jdk_116_method_1_code (4 : Nat) (Option.some Jvm.ClassFile.FieldType.int)).before args0 about1 = true := code_word (m := ⟨12, 0⟩) (meth := k12m0) (c := k12c0) (by decide +kernel) rfl rfl rfl (by decide +kernel)
set_option maxRecDepth 65536 in
theorem w_c17 : (Jvm.Cond.code ({ cls := "java/lang/String", name := "length", desc := "()I" } : Jvm.MethodName) jdk_42_method_54_code (1 : Nat) (Option.some Jvm.ClassFile.FieldType.int)).before args0 about1 = true := code_word (m := ⟨8, 2⟩) (meth := k8m2) (c := k8c2) (by decide +kernel) rfl rfl rfl (by decide +kernel)
set_option maxRecDepth 65536 in
theorem w_c18 : (Jvm.Cond.code ({ cls := "java/lang/String", name := "coder", desc := "()B" } : Jvm.MethodName) jdk_42_method_152_code (1 : Nat) (Option.some Jvm.ClassFile.FieldType.byte)).before args0 about1 = true := code_word (m := ⟨8, 9⟩) (meth := k8m9) (c := k8c9) (by decide +kernel) rfl rfl rfl (by decide +kernel)
set_option maxRecDepth 65536 in
theorem w_c19 : (Jvm.Cond.code ({ cls := "com/example/leasehold/leasehold/LeaseRequest", name := "isValidTtl", desc := "(J)Z" } : Jvm.MethodName) prog_13_method_3_code (2 : Nat) (Option.some Jvm.ClassFile.FieldType.boolean)).before args0 about1 = true := code_word (m := ⟨10, 2⟩) (meth := k10m2) (c := k10c2) (by decide +kernel) rfl rfl rfl (by decide +kernel)
set_option maxRecDepth 65536 in
theorem w_c20 : (Jvm.Cond.code ({ cls := "java/util/Objects", name := "requireNonNull", desc := "(Ljava/lang/Object;Ljava/lang/String;)Ljava/lang/Object;" } : Jvm.MethodName) jdk_31_method_11_code (2 : Nat) (Option.some (Jvm.ClassFile.FieldType.object "java/lang/Object"))).before args0 about1 = true := code_word (m := ⟨13, 1⟩) (meth := k13m1) (c := k13c1) (by decide +kernel) rfl rfl rfl (by decide +kernel)
set_option maxRecDepth 65536 in
theorem w_c21 : (Jvm.Cond.code ({ cls := "com/example/leasehold/leasehold/LeaseRequest", name := "hasTermsOf", desc := "(Lcom/example/leasehold/leasehold/LeaseRequest;)Z" } : Jvm.MethodName) prog_13_method_8_code (2 : Nat) (Option.some Jvm.ClassFile.FieldType.boolean)).before args0 about1 = true := code_word (m := ⟨10, 3⟩) (meth := k10m3) (c := k10c3) (by decide +kernel) rfl rfl rfl (by decide +kernel)
set_option maxRecDepth 65536 in
theorem w_c22 : (Jvm.Cond.code ({ cls := "java/lang/String", name := "equals", desc := "(Ljava/lang/Object;)Z" } : Jvm.MethodName) jdk_42_method_66_code (3 : Nat) (Option.some Jvm.ClassFile.FieldType.boolean)).before args0 about1 = true := code_word (m := ⟨8, 3⟩) (meth := k8m3) (c := k8c3) (by decide +kernel) rfl rfl rfl (by decide +kernel)
set_option maxRecDepth 65536 in
theorem w_c23 : (Jvm.Cond.code ({ cls := "java/lang/StringLatin1", name := "equals", desc := "([B[B)Z" } : Jvm.MethodName) jdk_43_method_13_code (3 : Nat) (Option.some Jvm.ClassFile.FieldType.boolean)).before args0 about1 = true := code_word (m := ⟨9, 2⟩) (meth := k9m2) (c := k9c2) (by decide +kernel) rfl rfl rfl (by decide +kernel)
set_option maxRecDepth 65536 in
theorem w_c24 : (Jvm.Cond.code ({ cls := "java/lang/String", name := "<init>", desc := "([C)V" } : Jvm.MethodName) jdk_42_method_3_code (2 : Nat) (Option.none : Option Jvm.ClassFile.FieldType)).before args0 about1 = true := code_word (m := ⟨8, 1⟩) (meth := k8m1) (c := k8c1) (by decide +kernel) rfl rfl rfl (by decide +kernel)
set_option maxRecDepth 65536 in
theorem w_c25 : (Jvm.Cond.code ({ cls := "java/lang/String", name := "<init>", desc := "([CIILjava/lang/Void;)V" } : Jvm.MethodName) jdk_42_method_149_code (6 : Nat) (Option.none : Option Jvm.ClassFile.FieldType)).before args0 about1 = true := code_word (m := ⟨8, 7⟩) (meth := k8m7) (c := k8c7) (by decide +kernel) rfl rfl rfl (by decide +kernel)
set_option maxRecDepth 65536 in
theorem w_c26 : (Jvm.Cond.code ({ cls := "java/lang/StringUTF16", name := "compress", desc := "([CII)[B" } : Jvm.MethodName) jdk_52_method_16_code (6 : Nat) (Option.some (Jvm.ClassFile.FieldType.array Jvm.ClassFile.FieldType.byte))).before args0 about1 = true := code_word (m := ⟨14, 2⟩) (meth := k14m2) (c := k14c2) (by decide +kernel) rfl rfl rfl (by decide +kernel)
set_option maxRecDepth 65536 in
theorem w_c27 : (Jvm.Cond.code ({ cls := "java/lang/StringUTF16", name := "compress", desc := "([CI[BII)I" } : Jvm.MethodName) jdk_52_method_21_code (7 : Nat) (Option.some Jvm.ClassFile.FieldType.int)).before args0 about1 = true := code_word (m := ⟨14, 3⟩) (meth := k14m3) (c := k14c3) (by decide +kernel) rfl rfl rfl (by decide +kernel)
set_option maxRecDepth 65536 in
theorem w_c28 : (Jvm.Cond.code ({ cls := "java/lang/StringUTF16", name := "coderFromArrayLen", desc := "([BI)B" } : Jvm.MethodName) jdk_52_method_15_code (2 : Nat) (Option.some Jvm.ClassFile.FieldType.byte)).before args0 about1 = true := code_word (m := ⟨14, 1⟩) (meth := k14m1) (c := k14c1) (by decide +kernel) rfl rfl rfl (by decide +kernel)
def codes1 : List Jvm.Cond := [Jvm.Cond.code x code maxLocals ret, Jvm.Cond.code ({ cls := "java/lang/Math", name := "max", desc := "(JJ)J" } : Jvm.MethodName) jdk_29_method_66_code (4 : Nat) (Option.some Jvm.ClassFile.FieldType.long), Jvm.Cond.code ({ cls := "com/example/leasehold/leasehold/LeaseRequestHasTermsOfPinLaw", name := "str", desc := "(I)Ljava/lang/String;" } : Jvm.MethodName) method_2_code (2 : Nat) (Option.some (Jvm.ClassFile.FieldType.object "java/lang/String")), Jvm.Cond.code ({ cls := "java/lang/String", name := "valueOf", desc := "(C)Ljava/lang/String;" } : Jvm.MethodName) jdk_42_method_139_code (1 : Nat) (Option.some (Jvm.ClassFile.FieldType.object "java/lang/String")), Jvm.Cond.code ({ cls := "java/lang/StringLatin1", name := "canEncode", desc := "(C)Z" } : Jvm.MethodName) jdk_43_method_3_code (1 : Nat) (Option.some Jvm.ClassFile.FieldType.boolean), Jvm.Cond.code ({ cls := "java/lang/StringLatin1", name := "toBytes", desc := "(C)[B" } : Jvm.MethodName) jdk_43_method_46_code (1 : Nat) (Option.some (Jvm.ClassFile.FieldType.array Jvm.ClassFile.FieldType.byte)), Jvm.Cond.code ({ cls := "java/lang/String", name := "<init>", desc := "([BB)V" } : Jvm.MethodName) jdk_42_method_151_code (3 : Nat) (Option.none : Option Jvm.ClassFile.FieldType), Jvm.Cond.code ({ cls := "java/lang/Object", name := "<init>", desc := "()V" } : Jvm.MethodName) object_method_1_code (1 : Nat) (Option.none : Option Jvm.ClassFile.FieldType), Jvm.Cond.code ({ cls := "com/example/leasehold/leasehold/LeaseRequest", name := "<init>", desc := "(Ljava/lang/String;Ljava/lang/String;Ljava/lang/String;Ljava/lang/String;Ljava/lang/String;JJ)V" } : Jvm.MethodName) prog_13_method_1_code (10 : Nat) (Option.none : Option Jvm.ClassFile.FieldType), Jvm.Cond.code ({ cls := "com/example/leasehold/leasehold/LeaseRequest", name := "isValidHolder", desc := "(Ljava/lang/String;)Z" } : Jvm.MethodName) prog_13_method_2_code (1 : Nat) (Option.some Jvm.ClassFile.FieldType.boolean), Jvm.Cond.code ({ cls := "java/lang/String", name := "isBlank", desc := "()Z" } : Jvm.MethodName) jdk_42_method_117_code (1 : Nat) (Option.some Jvm.ClassFile.FieldType.boolean), Jvm.Cond.code ({ cls := "java/lang/String", name := "indexOfNonWhitespace", desc := "()I" } : Jvm.MethodName) jdk_42_method_120_code (1 : Nat) (Option.some Jvm.ClassFile.FieldType.int), Jvm.Cond.code ({ cls := "java/lang/String", name := "isLatin1", desc := "()Z" } : Jvm.MethodName) jdk_42_method_154_code (1 : Nat) (Option.some Jvm.ClassFile.FieldType.boolean), Jvm.Cond.code ({ cls := "java/lang/StringLatin1", name := "indexOfNonWhitespace", desc := "([B)I" } : Jvm.MethodName) jdk_43_method_37_code (4 : Nat) (Option.some Jvm.ClassFile.FieldType.int), Jvm.Cond.code ({ cls := "java/lang/StringLatin1", name := "getChar", desc := "([BI)C" } : Jvm.MethodName) jdk_43_method_44_code (2 : Nat) (Option.some Jvm.ClassFile.FieldType.char), Jvm.Cond.code ({ cls := "java/lang/CharacterDataLatin1", name := "isWhitespace", desc := "(I)Z" } : Jvm.MethodName) jdk_116_method_26_code (3 : Nat) (Option.some Jvm.ClassFile.FieldType.boolean), Jvm.Cond.code ({ cls := "java/lang/CharacterDataLatin1", name := "getProperties", desc := "(I)I" } : Jvm.MethodName) jdk_116_method_1_code (4 : Nat) (Option.some Jvm.ClassFile.FieldType.int), Jvm.Cond.code ({ cls := "java/lang/String", name := "length", desc := "()I" } : Jvm.MethodName) jdk_42_method_54_code (1 : Nat) (Option.some Jvm.ClassFile.FieldType.int), Jvm.Cond.code ({ cls := "java/lang/String", name := "coder", desc := "()B" } : Jvm.MethodName) jdk_42_method_152_code (1 : Nat) (Option.some Jvm.ClassFile.FieldType.byte), Jvm.Cond.code ({ cls := "com/example/leasehold/leasehold/LeaseRequest", name := "isValidTtl", desc := "(J)Z" } : Jvm.MethodName) prog_13_method_3_code (2 : Nat) (Option.some Jvm.ClassFile.FieldType.boolean), Jvm.Cond.code ({ cls := "java/util/Objects", name := "requireNonNull", desc := "(Ljava/lang/Object;Ljava/lang/String;)Ljava/lang/Object;" } : Jvm.MethodName) jdk_31_method_11_code (2 : Nat) (Option.some (Jvm.ClassFile.FieldType.object "java/lang/Object")), Jvm.Cond.code ({ cls := "com/example/leasehold/leasehold/LeaseRequest", name := "hasTermsOf", desc := "(Lcom/example/leasehold/leasehold/LeaseRequest;)Z" } : Jvm.MethodName) prog_13_method_8_code (2 : Nat) (Option.some Jvm.ClassFile.FieldType.boolean), Jvm.Cond.code ({ cls := "java/lang/String", name := "equals", desc := "(Ljava/lang/Object;)Z" } : Jvm.MethodName) jdk_42_method_66_code (3 : Nat) (Option.some Jvm.ClassFile.FieldType.boolean), Jvm.Cond.code ({ cls := "java/lang/StringLatin1", name := "equals", desc := "([B[B)Z" } : Jvm.MethodName) jdk_43_method_13_code (3 : Nat) (Option.some Jvm.ClassFile.FieldType.boolean), Jvm.Cond.code ({ cls := "java/lang/String", name := "<init>", desc := "([C)V" } : Jvm.MethodName) jdk_42_method_3_code (2 : Nat) (Option.none : Option Jvm.ClassFile.FieldType), Jvm.Cond.code ({ cls := "java/lang/String", name := "<init>", desc := "([CIILjava/lang/Void;)V" } : Jvm.MethodName) jdk_42_method_149_code (6 : Nat) (Option.none : Option Jvm.ClassFile.FieldType), Jvm.Cond.code ({ cls := "java/lang/StringUTF16", name := "compress", desc := "([CII)[B" } : Jvm.MethodName) jdk_52_method_16_code (6 : Nat) (Option.some (Jvm.ClassFile.FieldType.array Jvm.ClassFile.FieldType.byte)), Jvm.Cond.code ({ cls := "java/lang/StringUTF16", name := "compress", desc := "([CI[BII)I" } : Jvm.MethodName) jdk_52_method_21_code (7 : Nat) (Option.some Jvm.ClassFile.FieldType.int), Jvm.Cond.code ({ cls := "java/lang/StringUTF16", name := "coderFromArrayLen", desc := "([BI)B" } : Jvm.MethodName) jdk_52_method_15_code (2 : Nat) (Option.some Jvm.ClassFile.FieldType.byte)]
set_option maxRecDepth 65536 in
theorem codes_eq : words1.filter isCode = codes1 := rfl
theorem w_codes : ∀ c ∈ words1.filter isCode, c.before args0 about1 = true := by
  rw [codes_eq]
  intro c hc
  simp only [codes1, List.mem_cons, List.not_mem_nil, or_false] at hc
  rcases hc with rfl | rfl | rfl | rfl | rfl | rfl | rfl | rfl | rfl | rfl | rfl | rfl | rfl | rfl | rfl | rfl | rfl | rfl | rfl | rfl | rfl | rfl | rfl | rfl | rfl | rfl | rfl | rfl | rfl
  · exact w_c0
  · exact w_c1
  · exact w_c2
  · exact w_c3
  · exact w_c4
  · exact w_c5
  · exact w_c6
  · exact w_c7
  · exact w_c8
  · exact w_c9
  · exact w_c10
  · exact w_c11
  · exact w_c12
  · exact w_c13
  · exact w_c14
  · exact w_c15
  · exact w_c16
  · exact w_c17
  · exact w_c18
  · exact w_c19
  · exact w_c20
  · exact w_c21
  · exact w_c22
  · exact w_c23
  · exact w_c24
  · exact w_c25
  · exact w_c26
  · exact w_c27
  · exact w_c28
set_option maxRecDepth 65536 in
theorem w_t1 : (words1.take 24).all (fun c => isCode c || c.before args0 about1) = true := by decide +kernel
set_option maxRecDepth 65536 in
theorem w_t2 : ((words1.drop 24).take 24).all (fun c => isCode c || c.before args0 about1) = true := by decide +kernel
set_option maxRecDepth 65536 in
theorem w_t3 : (((words1.drop 24).drop 24).take 24).all (fun c => isCode c || c.before args0 about1) = true := by decide +kernel
set_option maxRecDepth 65536 in
theorem w_t4 : ((((words1.drop 24).drop 24).drop 24).take 24).all (fun c => isCode c || c.before args0 about1) = true := by decide +kernel
set_option maxRecDepth 65536 in
theorem w_t5 : (((((words1.drop 24).drop 24).drop 24).drop 24).take 24).all (fun c => isCode c || c.before args0 about1) = true := by decide +kernel
set_option maxRecDepth 65536 in
theorem w_t6 : ((((((words1.drop 24).drop 24).drop 24).drop 24).drop 24).take 24).all (fun c => isCode c || c.before args0 about1) = true := by decide +kernel
set_option maxRecDepth 65536 in
theorem w_t7 : ((((((words1.drop 24).drop 24).drop 24).drop 24).drop 24).drop 24).all (fun c => isCode c || c.before args0 about1) = true := by decide +kernel
theorem w_tables : (allAtoms (Jvm.Cond.code x code maxLocals ret :: tables_1)).before args0 about1 = true := by
  rw [allAtoms_all]
  show words1.all (fun c => c.before args0 about1) = true
  refine all_split ?_ w_codes
  rw [← List.take_append_drop 24 words1, List.all_append, w_t1, ← List.take_append_drop 24 (words1.drop 24), List.all_append, w_t2, ← List.take_append_drop 24 ((words1.drop 24).drop 24), List.all_append, w_t3, ← List.take_append_drop 24 (((words1.drop 24).drop 24).drop 24), List.all_append, w_t4, ← List.take_append_drop 24 ((((words1.drop 24).drop 24).drop 24).drop 24), List.all_append, w_t5, ← List.take_append_drop 24 (((((words1.drop 24).drop 24).drop 24).drop 24).drop 24), List.all_append, w_t6, w_t7]
  rfl
set_option maxRecDepth 65536 in
theorem w_rest : rest_1_c.before args0 about1 = true := by decide +kernel
set_option maxRecDepth 65536 in
theorem w_case : (Jvm.Cond.and given_1 narrow_1).before args0 about1 = true := by decide +kernel
set_option maxRecDepth 65536 in
theorem w_consts : constsHeld consts_1 about1 := Jvm.Lit.constsHeldB_iff.mp (by decide +kernel)
theorem w_applies : (headSpec (Jvm.Cond.code x code maxLocals ret :: tables_1) room_1).applies x e0.platform about1 = true :=
  (Spec.applies_iff w_frames).mpr ⟨w_running, w_runnable, w_alone, w_named, w_hears, w_ripe, w_room, w_tables⟩
theorem atStart : AtStart classFile x code maxLocals ret World_1 tables_1 room_1 Calls_1 rest_1 Pre_1 launch0 p0 e0 about1 theMethod args0 below0 :=
  ⟨lists_1, trivial, launch0.admits_env _ _ _, launch0.least_env, fairChoices_fair.cas, fairChoices_fair.clock, w_frames, w_args, w_heap, w_applies, ⟨w_consts, trivial⟩, w_rest, w_case⟩
end start1
theorem witness_1 : WitnessClaimed_1 := ⟨start1.p0, start1.e0, start1.about1, start1.theMethod, start1.args0, start1.below0, start1.atStart⟩
end Jvm.Pilot.@@N@@
