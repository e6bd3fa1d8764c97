import JvmDerived
import JvmDerived.Pilot.@@N@@Statement
import JvmDerived.Pilot.@@N@@Code
set_option linter.unusedVariables false
set_option linter.unusedSimpArgs false
namespace Jvm.RoadKit
open Sem ClassFile Op Lib Jvm.Stand Jvm.Free Jvm.LawKit
section New
variable {p : Program} {l : Launch} {e : Env} {R : Room} {s : State} {m : MethodId} {args : Array Value} {below : List Frame} {meth : Method} {c : Code} {T : State} {locs : List Loc} {cells slots : Nat}
theorem retI (X : Stand p l e R s m args below meth c T locs cells slots) (hx : p.tables.exec = Jvm.exec) {pc : Nat} {Ls : Array Slot} {z : Int32} {rest : List Value} (hret : meth.sig.returnType = some .int) (hd : decode c.code pc = .ok (.ireturn, 1)) {fs : List Frame}
    (hl : ∀ (f : JFrame) (acts : List Action), f.method = m → f.locked = none → f.entered = [] → (doReturn e (T.setTop f) acts (some (.int z))).1 = T.setFrames fs) : Steps p.tables e below (T.setTop (mkF m pc Ls (.int z :: rest))) (T.setFrames fs) := by
  have hm' : T.vm.method? m = some meth := X.method'
  have hn : narrow .int (.int z) = .int z := rfl
  show Steps p.tables e below (T.setTop { method := m, pc := pc, locals := Ls, stack := _ :: rest, locked := none }) _
  jvm_step X.here [X.here.top, hx, hd, hm', hret, hn]
  first | (intro acts; rw [hl _ acts rfl rfl rfl]) | rw [hl _ _ rfl rfl rfl]
  exact Steps.refl _
end New
theorem own_sta_keep {Z : State} {h h' : Heap} {C n d : String} {v : Value} {ws : List Addr} (F : Sta Z h C n d v) (K : Keep h h' ws) (q : ∀ x ∈ ws, ∀ c : Cell, h[x]? = some c → c.vm.isStatics = false) : Sta Z h' C n d v := by
  obtain ⟨cf, i, k, f, st, cell, h1, h2, h3, h4, h5, h6, h7⟩ := F
  exact ⟨cf, i, k, f, st, cell, h1, h2, h3, h4, K.2.1 st cell h5 (fun hm => by rw [q st hm cell h5] at h6; cases h6), h6, h7⟩
theorem own_plain_Exa {Z : State} {h : Heap} {a : Addr} {C : String} (F : Exa Z h a C) : ∀ c : Cell, h[a]? = some c → c.vm.isStatics = false := fun c hc => by
  obtain ⟨cell, _, h1, -, -, h4, -⟩ := F
  cases h1.symm.trans hc; exact h4
theorem own_plain_Arv {Z : State} {h : Heap} {a : Addr} {k : ClassId} {ty : FieldType} {n : Int32} {vs : List Value} {d : Value} (F : Arv Z h a k ty n vs d) : ∀ c : Cell, h[a]? = some c → c.vm.isStatics = false := fun c hc => by
  obtain ⟨cell, A, -⟩ := F
  cases A.1.symm.trans hc; exact A.plain
end Jvm.RoadKit
/- laws to paste: Road.backV, Road.lenW, Road.eqW, Road.codOf (cut by pick.py; bodies as the Statement names them) -/
namespace Jvm.Pilot.@@N@@
namespace StrChars
open Jvm Sem ClassFile Op Lib Jvm.Stand Jvm.Free.XT Jvm.Free.ALB Jvm.Free.JM Jvm.Free
open Jvm.Lib.Cold (StaticIs)
/-- a char array whose places are chars -/
def Ch (a : Addr) (A : Cell) (U : State) : Prop := Arr .char a A U ∧ Typed .char A
theorem Ch.mv {a : Addr} {A : Cell} {U U' : State} (h : Ch a A U) (hal : U.vm.Alike U'.vm) (hh : U'.heap = U.heap) : Ch a A U' := ⟨h.1.mv hal hh, h.2⟩
theorem Ch.keep {a : Addr} {A : Cell} {U U' : State} (h : Ch a A U) (hal : U.vm.Alike U'.vm) (hk : U'.heap[a]? = some A) : Ch a A U' := ⟨h.1.keep hal hk, h.2⟩
/-- what place i of a char[]'s cell holds -/
def cv (A : Cell) (i : Nat) : Int32 := match A.slots[i]? with | some (.int x) => x | _ => 0
theorem Ch.get {a : Addr} {A : Cell} {U : State} (h : Ch a A U) {i : Nat} (hi : i < A.slots.size) : A.slots[i]? = some (.int (cv A i)) := by
  have e := Array.getElem?_eq_getElem hi
  have f := h.2 i _ e
  unfold cv; rw [e]
  generalize A.slots[i] = v at f
  cases v <;> simp [fits] at f ⊢
/-- the byte that i2b leaves of a char -/
def lo8 (x : Int32) : Int32 := x.toInt8.toInt32
theorem fits_lo8 (y : Int32) : fits .byte (.int (lo8 y)) = true := by
  have h1 := y.toInt8.le_toInt
  have h2 := y.toInt8.toInt_lt
  simp only [lo8, fits, Bool.and_eq_true, decide_eq_true_eq, Int32.le_iff_toInt_le, Int8.toInt_toInt32, show (-128 : Int32).toInt = -128 from by decide, show (127 : Int32).toInt = 127 from by decide]
  omega
/-- A' is A but that each place j of lo .. hi - 1 holds f j -/
def Laid (A A' : Cell) (lo hi : Nat) (f : Nat → Value) : Prop := A'.cls = A.cls ∧ A'.vm = A.vm ∧ A'.slots.size = A.slots.size ∧ ∀ i, A'.slots[i]? = if lo ≤ i ∧ i < hi then some (f i) else A.slots[i]?
theorem Laid.zero (A : Cell) (lo : Nat) (f : Nat → Value) : Laid A A lo (lo + 0) f := ⟨rfl, rfl, rfl, fun i => by rw [if_neg (by omega)]⟩
theorem Laid.step {A Ak : Cell} {lo k : Nat} {f : Nat → Value} {v : Value} (h : Laid A Ak lo k f) (hlo : lo ≤ k) (hk : k < Ak.slots.size) (hv : v = f k) : Laid A (Ak.setSlot k v) lo (k + 1) f := by
  refine ⟨h.1, h.2.1, by simpa [Cell.setSlot] using h.2.2.1, fun i => ?_⟩
  by_cases e : k = i
  · subst e; rw [Cell.slots_setSlot_self v hk, if_pos (by omega), hv]
  · rw [Cell.slots_setSlot_ne v e, h.2.2.2 i]
    by_cases q : lo ≤ i ∧ i < k
    · rw [if_pos q, if_pos (by omega)]
    · rw [if_neg q, if_neg (by omega)]
def U16 : String := "java/lang/StringUTF16"
namespace Cmp5
def yN : MethodName := ⟨"java/lang/StringUTF16", "compress", "([CI[BII)I"⟩
abbrev yB : ByteArray := jdk_52_method_21_code
theorem d0 : decode yB 0 = .ok (.iconst 0, 1) := by decide +kernel
theorem d1 : decode yB 1 = .ok (.istore 5, 2) := by decide +kernel
theorem d3 : decode yB 3 = .ok (.iload 5, 2) := by decide +kernel
theorem d5 : decode yB 5 = .ok (.iload 4, 2) := by decide +kernel
theorem d7 : decode yB 7 = .ok (.if_icmp (.ge) 37, 3) := by decide +kernel
theorem d10 : decode yB 10 = .ok (.aload_n 0, 1) := by decide +kernel
theorem d11 : decode yB 11 = .ok (.iload_n 1, 1) := by decide +kernel
theorem d12 : decode yB 12 = .ok (.caload, 1) := by decide +kernel
theorem d13 : decode yB 13 = .ok (.istore 6, 2) := by decide +kernel
theorem d15 : decode yB 15 = .ok (.iload 6, 2) := by decide +kernel
theorem d17 : decode yB 17 = .ok (.sipush 255, 3) := by decide +kernel
theorem d20 : decode yB 20 = .ok (.if_icmp (.le) 6, 3) := by decide +kernel
theorem d26 : decode yB 26 = .ok (.aload_n 2, 1) := by decide +kernel
theorem d27 : decode yB 27 = .ok (.iload_n 3, 1) := by decide +kernel
theorem d28 : decode yB 28 = .ok (.iload 6, 2) := by decide +kernel
theorem d30 : decode yB 30 = .ok (.i2b, 1) := by decide +kernel
theorem d31 : decode yB 31 = .ok (.bastore, 1) := by decide +kernel
theorem d32 : decode yB 32 = .ok (.iinc 1 1, 3) := by decide +kernel
theorem d35 : decode yB 35 = .ok (.iinc 3 1, 3) := by decide +kernel
theorem d38 : decode yB 38 = .ok (.iinc 5 1, 3) := by decide +kernel
theorem d41 : decode yB 41 = .ok (.goto (-38), 3) := by decide +kernel
theorem d44 : decode yB 44 = .ok (.iload 4, 2) := by decide +kernel
theorem d46 : decode yB 46 = .ok (.ireturn, 1) := by decide +kernel
def site : List Cond := []
def tab : Cond := tabOf yN yB 7 (some .int) site
def P (b : Addr) (A : Cell) (d : Addr) (B : Cell) (o q len : Nat) (args : Array Value) (s : State) : Prop := args = #[.ref b, .int (Int32.ofNat o), .ref d, .int (Int32.ofNat q), .int (Int32.ofNat len)] ∧ Ch b A s ∧ Arr .byte d B s ∧ b ≠ d ∧ o + len ≤ A.slots.size ∧ q + len ≤ B.slots.size ∧ ∀ i, i < len → ¬ 255 < cv A (o + i)
def E (b : Addr) (A : Cell) (d : Addr) (B : Cell) (o q len : Nat) (r : Option Value) (s u : State) : Prop := r = some (.int (Int32.ofNat len)) ∧ ∃ B', Put d B' s u ∧ Laid B B' q (q + len) (fun j => Value.int (lo8 (cv A (o + (j - q)))))
/-- no char of the range above 255: len; the places written hold each char's low byte -/
theorem law (l : Launch) (b : Addr) (A : Cell) (d : Addr) (B : Cell) (o q len : Nat) : Law l yN 5 5 0 0 yB 7 (some .int) site (P b A d B o q len) (E b A d B o q len) (copyLocs d q len) 0 0 := by
  refine Law.of_walk (plainFor_of_name (by decide +kernel)) (by decide +kernel) (by decide +kernel) (by decide) (fun _ _ h => by rw [h.1]; rfl) (fun _ U U' hal hh h => ⟨h.1, h.2.1.mv hal hh, h.2.2.1.mv hal hh, h.2.2.2⟩) (fun r U U' V V' h1 hal h2 h => ⟨h.1, h.2.elim fun B' q => ⟨B', q.1.mv h1 h2, q.2⟩⟩) ?_
  intro p e s m args below meth c s₁ X0 hexec hbytes hml hret hlk hnm hown hh0 W hP
  obtain ⟨rfl, hA, hB, hne, l1, l2, hp⟩ := hP
  have c1 : Steps p.tables e below (s₁.setTop (entryFrame m #[.ref b, .int (Int32.ofNat o), .ref d, .int (Int32.ofNat q), .int (Int32.ofNat len)] 7)) (s₁.setTop (mkF m 0 #[.val (.ref b), .val (.int (Int32.ofNat o)), .val (.ref d), .val (.int (Int32.ofNat q)), .val (.int (Int32.ofNat len)), .unset, .unset] [])) := entry rfl
  have hA0 := hA.1.mv X0.warmed.alike hh0
  have hB0 := hB.mv X0.warmed.alike hh0
  have a31 := hA.1.2.2.2
  have c2 : Steps p.tables e below (s₁.setTop (entryFrame m #[.ref b, .int (Int32.ofNat o), .ref d, .int (Int32.ofNat q), .int (Int32.ofNat len)] 7)) (s₁.setTop (mkF m 3 #[.val (.ref b), .val (.int (Int32.ofNat o)), .val (.ref d), .val (.int (Int32.ofNat q)), .val (.int (Int32.ofNat len)), .val (.int 0), .unset] [])) := c1.trans (by
    refine iconstV X0.here hexec rfl 0 (hb hbytes d0) (by decide) ?_
    refine XS.istore X0.here hexec rfl (hb hbytes d1) rfl rfl ?_
    exact Steps.refl _)
  have loop : ∀ (r i : Nat), i + r = len → ∀ (z : Slot), (z = .unset ∨ ∃ w, z = .val w ∧ w.category = 1) → ∀ (Tl : State) (Bk : Cell), Stand p l e { frames := 0, locals := 0, cells := 0, slots := 0 } s m #[.ref b, .int (Int32.ofNat o), .ref d, .int (Int32.ofNat q), .int (Int32.ofNat len)] below meth c Tl ([] ++ copyLocs d q i) 0 0 → Put d Bk s₁ Tl → Laid B Bk q (q + i) (fun j => Value.int (lo8 (cv A (o + (j - q))))) →
      Steps p.tables e below (s₁.setTop (entryFrame m #[.ref b, .int (Int32.ofNat o), .ref d, .int (Int32.ofNat q), .int (Int32.ofNat len)] 7)) (Tl.setTop (mkF m 3 #[.val (.ref b), .val (.int (Int32.ofNat (o + i))), .val (.ref d), .val (.int (Int32.ofNat (q + i))), .val (.int (Int32.ofNat len)), .val (.int (Int32.ofNat i)), z] [])) → ∃ (T' : State) (B' : Cell) (z' : Slot), Stand p l e { frames := 0, locals := 0, cells := 0, slots := 0 } s m #[.ref b, .int (Int32.ofNat o), .ref d, .int (Int32.ofNat q), .int (Int32.ofNat len)] below meth c T' ([] ++ copyLocs d q len) 0 0 ∧ Put d B' s₁ T' ∧ Laid B B' q (q + len) (fun j => Value.int (lo8 (cv A (o + (j - q))))) ∧
      Steps p.tables e below (s₁.setTop (entryFrame m #[.ref b, .int (Int32.ofNat o), .ref d, .int (Int32.ofNat q), .int (Int32.ofNat len)] 7)) (T'.setTop (mkF m 3 #[.val (.ref b), .val (.int (Int32.ofNat (o + len))), .val (.ref d), .val (.int (Int32.ofNat (q + len))), .val (.int (Int32.ofNat len)), .val (.int (Int32.ofNat len)), z'] [])) := by
    intro r
    induction r with
    | zero =>
      intro i hi z hz Tl Bk Xl pl fl cl
      have hil : i = len := by omega
      rw [hil] at Xl fl cl
      exact ⟨Tl, Bk, z, Xl, pl, fl, cl⟩
    | succ r ih =>
      intro i hi z hz Tl Bk Xl pl fl cl
      have all := X0.warmed.alike.symm.trans Xl.warmed.alike
      have hAl := hA0.keep all (pl.other hne hA0.1)
      have hBk := hB0.like all pl.1 fl.1 fl.2.1 fl.2.2.1
      have hlt : q + i < Bk.slots.size := by rw [fl.2.2.1]; omega
      have c3 : Steps p.tables e below (s₁.setTop (entryFrame m #[.ref b, .int (Int32.ofNat o), .ref d, .int (Int32.ofNat q), .int (Int32.ofNat len)] 7)) (Tl.setTop (mkF m 12 #[.val (.ref b), .val (.int (Int32.ofNat (o + i))), .val (.ref d), .val (.int (Int32.ofNat (q + i))), .val (.int (Int32.ofNat len)), .val (.int (Int32.ofNat i)), z] [.int (Int32.ofNat (o + i)), .ref b])) := cl.trans (by
        refine XS.iload Xl.here hexec rfl (hb hbytes d3) rfl ?_
        refine XS.iload Xl.here hexec rfl (hb hbytes d5) rfl ?_
        refine XS.icmpNo Xl.here hexec rfl (hb hbytes d7) rfl (ii_ge_f (lt32 (by omega) (by omega))) ?_
        refine XS.aloadN Xl.here hexec rfl (hb hbytes d10) rfl rfl ?_
        refine XS.iloadN Xl.here hexec rfl (hb hbytes d11) rfl ?_
        exact Steps.refl _)
      have c4 : Steps p.tables e below (s₁.setTop (entryFrame m #[.ref b, .int (Int32.ofNat o), .ref d, .int (Int32.ofNat q), .int (Int32.ofNat len)] 7)) (Tl.setTop (mkF m 13 #[.val (.ref b), .val (.int (Int32.ofNat (o + i))), .val (.ref d), .val (.int (Int32.ofNat (q + i))), .val (.int (Int32.ofNat len)), .val (.int (Int32.ofNat i)), z] [.int (cv A (o + i))])) := c3.trans (by
        refine Xl.aget hexec hAl rfl (hA.get (i := o + i) (by omega)) rfl rfl (hb hbytes d12) ?_
        exact Steps.refl _)
      have c5 : Steps p.tables e below (s₁.setTop (entryFrame m #[.ref b, .int (Int32.ofNat o), .ref d, .int (Int32.ofNat q), .int (Int32.ofNat len)] 7)) (Tl.setTop (mkF m 15 #[.val (.ref b), .val (.int (Int32.ofNat (o + i))), .val (.ref d), .val (.int (Int32.ofNat (q + i))), .val (.int (Int32.ofNat len)), .val (.int (Int32.ofNat i)), .val (.int (cv A (o + i)))] [])) := c4.trans (by
        refine XS.istoreS Xl.here hexec rfl (hb hbytes d13) rfl rfl hz ?_
        exact Steps.refl _)
      have c6 : Steps p.tables e below (s₁.setTop (entryFrame m #[.ref b, .int (Int32.ofNat o), .ref d, .int (Int32.ofNat q), .int (Int32.ofNat len)] 7)) (Tl.setTop (mkF m 31 #[.val (.ref b), .val (.int (Int32.ofNat (o + i))), .val (.ref d), .val (.int (Int32.ofNat (q + i))), .val (.int (Int32.ofNat len)), .val (.int (Int32.ofNat i)), .val (.int (cv A (o + i)))] [.int (lo8 (cv A (o + i))), .int (Int32.ofNat (q + i)), .ref d])) := c5.trans (by
        refine XS.iload Xl.here hexec rfl (hb hbytes d15) rfl ?_
        refine sipushV Xl.here hexec rfl 255 (hb hbytes d17) (by decide) ?_
        refine XS.icmpYes Xl.here hexec rfl (pc0 := 20) rfl (hb hbytes d20) rfl (ii_le_t (hp i (by omega))) (by decide) rfl ?_
        refine XS.aloadN Xl.here hexec rfl (hb hbytes d26) rfl rfl ?_
        refine XS.iloadN Xl.here hexec rfl (hb hbytes d27) rfl ?_
        refine XS.iload Xl.here hexec rfl (hb hbytes d28) rfl ?_
        refine i2b Xl.here hexec rfl (hb hbytes d30) rfl ?_
        exact Steps.refl _)
      obtain ⟨T7, X7, p7, st7⟩ := Xl.aput hexec hBk rfl hlt rfl (fits_lo8 (cv A (o + i))) (g := (mkF m 31 #[.val (.ref b), .val (.int (Int32.ofNat (o + i))), .val (.ref d), .val (.int (Int32.ofNat (q + i))), .val (.int (Int32.ofNat len)), .val (.int (Int32.ofNat i)), .val (.int (cv A (o + i)))] [.int (lo8 (cv A (o + i))), .int (Int32.ofNat (q + i)), .ref d])) rfl (rest := []) rfl (hb hbytes d31)
      have c8 : Steps p.tables e below (s₁.setTop (entryFrame m #[.ref b, .int (Int32.ofNat o), .ref d, .int (Int32.ofNat q), .int (Int32.ofNat len)] 7)) (T7.setTop (mkF m 32 #[.val (.ref b), .val (.int (Int32.ofNat (o + i))), .val (.ref d), .val (.int (Int32.ofNat (q + i))), .val (.int (Int32.ofNat len)), .val (.int (Int32.ofNat i)), .val (.int (cv A (o + i)))] [])) := c6.trans (st7 _ (Steps.refl _))
      have c9 : Steps p.tables e below (s₁.setTop (entryFrame m #[.ref b, .int (Int32.ofNat o), .ref d, .int (Int32.ofNat q), .int (Int32.ofNat len)] 7)) (T7.setTop (mkF m 3 #[.val (.ref b), .val (.int (Int32.ofNat (o + i) + 1)), .val (.ref d), .val (.int (Int32.ofNat (q + i) + 1)), .val (.int (Int32.ofNat len)), .val (.int (Int32.ofNat i + 1)), .val (.int (cv A (o + i)))] [])) := c8.trans (by
        refine iincV X7.here hexec rfl 1 (hb hbytes d32) (by decide) rfl rfl ?_
        refine iincV X7.here hexec rfl 1 (hb hbytes d35) (by decide) rfl rfl ?_
        refine iincV X7.here hexec rfl 1 (hb hbytes d38) (by decide) rfl rfl ?_
        refine XS.goto X7.here hexec rfl (pc0 := 41) rfl (hb hbytes d41) (by decide) rfl ?_
        exact Steps.refl _)
      have c10 : Steps p.tables e below (s₁.setTop (entryFrame m #[.ref b, .int (Int32.ofNat o), .ref d, .int (Int32.ofNat q), .int (Int32.ofNat len)] 7)) (T7.setTop (mkF m 3 #[.val (.ref b), .val (.int (Int32.ofNat (o + (i + 1)))), .val (.ref d), .val (.int (Int32.ofNat (q + (i + 1)))), .val (.int (Int32.ofNat len)), .val (.int (Int32.ofNat (i + 1))), .val (.int (cv A (o + i)))] [])) := by
        have := c9
        rw [succ32, succ32, succ32] at this
        exact this
      exact ih (i + 1) (by omega) _ (Or.inr ⟨_, rfl, rfl⟩) T7 _ (by rw [copyLocs_step, ← List.append_assoc]; exact X7) (pl.trans p7) (fl.step (by omega) hlt (by simp)) c10
  obtain ⟨T9, B9, z9, X9, p9, f9, g9⟩ := loop len 0 (by omega) .unset (Or.inl rfl) s₁ B (by simpa [copyLocs] using X0) ⟨hB0.1, fun _ _ => rfl, rfl⟩ (Laid.zero _ _ _) c2
  have c11 : Steps p.tables e below (s₁.setTop (entryFrame m #[.ref b, .int (Int32.ofNat o), .ref d, .int (Int32.ofNat q), .int (Int32.ofNat len)] 7)) (T9.setTop (mkF m 46 #[.val (.ref b), .val (.int (Int32.ofNat (o + len))), .val (.ref d), .val (.int (Int32.ofNat (q + len))), .val (.int (Int32.ofNat len)), .val (.int (Int32.ofNat len)), z9] [.int (Int32.ofNat len)])) := g9.trans (by
    refine XS.iload X9.here hexec rfl (hb hbytes d3) rfl ?_
    refine XS.iload X9.here hexec rfl (hb hbytes d5) rfl ?_
    refine XS.icmpYes X9.here hexec rfl (pc0 := 7) rfl (hb hbytes d7) rfl (ii_ge_t (nlt32 (by omega) (Nat.le_refl _))) (by decide) rfl ?_
    refine XS.iload X9.here hexec rfl (hb hbytes d44) rfl ?_
    exact Steps.refl _)
  exact ⟨T9, some (.int (Int32.ofNat len)), _, _, _, X9, by simp, rfl, rfl, (fun h => by cases h), ⟨rfl, B9, p9.from hh0, f9⟩, fun fs hl => c11.trans (X9.ireturnOut hexec hret rfl (Or.inl rfl) (hb hbytes d46) hl)⟩
end Cmp5
namespace Cmp3
def yN : MethodName := ⟨"java/lang/StringUTF16", "compress", "([CII)[B"⟩
abbrev yB : ByteArray := jdk_52_method_16_code
theorem d0 : decode yB 0 = .ok (.iload_n 2, 1) := by decide +kernel
theorem d1 : decode yB 1 = .ok (.newarray .byte, 2) := by decide +kernel
theorem d3 : decode yB 3 = .ok (.astore_n 3, 1) := by decide +kernel
theorem d4 : decode yB 4 = .ok (.aload_n 0, 1) := by decide +kernel
theorem d5 : decode yB 5 = .ok (.iload_n 1, 1) := by decide +kernel
theorem d6 : decode yB 6 = .ok (.aload_n 3, 1) := by decide +kernel
theorem d7 : decode yB 7 = .ok (.iconst 0, 1) := by decide +kernel
theorem d8 : decode yB 8 = .ok (.iload_n 2, 1) := by decide +kernel
theorem d9 : decode yB 9 = .ok (.invokestatic 115, 3) := by decide +kernel
theorem d12 : decode yB 12 = .ok (.istore 4, 2) := by decide +kernel
theorem d14 : decode yB 14 = .ok (.iload 4, 2) := by decide +kernel
theorem d16 : decode yB 16 = .ok (.iload_n 2, 1) := by decide +kernel
theorem d17 : decode yB 17 = .ok (.if_icmp (.eq) 40, 3) := by decide +kernel
theorem d57 : decode yB 57 = .ok (.aload_n 3, 1) := by decide +kernel
theorem d58 : decode yB 58 = .ok (.areturn, 1) := by decide +kernel
def site : List Cond := [.arrayClass .byte, Cmp5.tab] ++ staticW U16 115 Cmp5.yN
def tab : Cond := tabOf yN yB 6 (some (.array .byte)) site
def P (b : Addr) (A : Cell) (o len : Nat) (args : Array Value) (s : State) : Prop := args = #[.ref b, .int (Int32.ofNat o), .int (Int32.ofNat len)] ∧ Ch b A s ∧ o + len ≤ A.slots.size ∧ len ≤ 536870912 ∧ ∀ i, i < len → ¬ 255 < cv A (o + i)
def E (b : Addr) (A : Cell) (o len : Nat) (r : Option Value) (s u : State) : Prop := NewArr .byte "[B" len (fun j => .int (lo8 (cv A (o + j)))) r s u ∧ u.heap.size = s.heap.size + 1
/-- no char of the range above 255: a new byte[] of their low bytes -/
theorem law (l : Launch) (b : Addr) (A : Cell) (o len : Nat) : Law l yN 3 3 1 18 yB 6 (some (.array .byte)) site (P b A o len) (E b A o len) [] 1 len := by
  refine Law.of_walk (plainFor_of_name (by decide +kernel)) (by decide +kernel) (by decide +kernel) (by decide) (fun _ _ h => by rw [h.1]; rfl) (fun _ U U' hal hh h => ⟨h.1, h.2.1.mv hal hh, h.2.2⟩) (fun r U U' V V' h1 hal h2 h => ⟨NewArr.mv r U U' V V' h1 hal h2 h.1, by rw [h1, h2]; exact h.2⟩) ?_
  intro p e s m args below meth c s₁ X0 hexec hbytes hml hret hlk hnm hown hh0 W hP
  obtain ⟨rfl, hA, l1, l2, hp⟩ := hP
  have a31 := hA.1.2.2.2
  have c1 : Steps p.tables e below (s₁.setTop (entryFrame m #[.ref b, .int (Int32.ofNat o), .int (Int32.ofNat len)] 6)) (s₁.setTop (mkF m 0 #[.val (.ref b), .val (.int (Int32.ofNat o)), .val (.int (Int32.ofNat len)), .unset, .unset, .unset] [])) := entry rfl
  have c2 : Steps p.tables e below (s₁.setTop (entryFrame m #[.ref b, .int (Int32.ofNat o), .int (Int32.ofNat len)] 6)) (s₁.setTop (mkF m 1 #[.val (.ref b), .val (.int (Int32.ofNat o)), .val (.int (Int32.ofNat len)), .unset, .unset, .unset] [.int (Int32.ofNat len)])) := c1.trans (by
    refine XS.iloadN X0.here hexec rfl (hb hbytes d0) rfl ?_
    exact Steps.refl _)
  obtain ⟨T3, B3, X3, ba3, bs3, bv3, bh3, bf3, st3⟩ := X0.anew hexec (atype := .byte) (wk W (.arrayClass .byte)) rfl (by show len * 1 ≤ _; omega) (by omega) (g := (mkF m 1 #[.val (.ref b), .val (.int (Int32.ofNat o)), .val (.int (Int32.ofNat len)), .unset, .unset, .unset] [.int (Int32.ofNat len)])) rfl (hb hbytes d1) (rest := []) rfl (Nat.le_refl _) (by show 0 + len ≤ len; omega)
  rw [hh0] at ba3 st3
  have kp3 : XT.Kept s T3 := (XT.Kept.of_eq hh0).push bh3
  have hA3 := hA.keep X3.warmed.alike (kp3 _ _ hA.1.1)
  have hne : b ≠ s.heap.size := hA.1.ne
  have c4 : Steps p.tables e below (s₁.setTop (entryFrame m #[.ref b, .int (Int32.ofNat o), .int (Int32.ofNat len)] 6)) (T3.setTop (mkF m 3 #[.val (.ref b), .val (.int (Int32.ofNat o)), .val (.int (Int32.ofNat len)), .unset, .unset, .unset] [.ref s.heap.size])) := c2.trans (st3 _ (Steps.refl _))
  have c5 : Steps p.tables e below (s₁.setTop (entryFrame m #[.ref b, .int (Int32.ofNat o), .int (Int32.ofNat len)] 6)) (T3.setTop (mkF m 9 #[.val (.ref b), .val (.int (Int32.ofNat o)), .val (.int (Int32.ofNat len)), .val (.ref s.heap.size), .unset, .unset] [.int (Int32.ofNat len), .int 0, .ref s.heap.size, .int (Int32.ofNat o), .ref b])) := c4.trans (by
    refine XS.astoreN X3.here hexec rfl (hb hbytes d3) rfl rfl rfl ?_
    refine XS.aloadN X3.here hexec rfl (hb hbytes d4) rfl rfl ?_
    refine XS.iloadN X3.here hexec rfl (hb hbytes d5) rfl ?_
    refine XS.aloadN X3.here hexec rfl (hb hbytes d6) rfl rfl ?_
    refine iconstV X3.here hexec rfl 0 (hb hbytes d7) (by decide) ?_
    refine XS.iloadN X3.here hexec rfl (hb hbytes d8) rfl ?_
    exact Steps.refl _)
  obtain ⟨v6, T6, X6, E6, g6⟩ := X3.callS hexec (Cmp5.law l b A s.heap.size B3 o 0 len) hown (wks W (staticW U16 115 Cmp5.yN)) (wk W Cmp5.tab) (W := 0) (Nat.le_of_ble_eq_true rfl) (Nat.le_of_ble_eq_true rfl) (Nat.le_refl _) (by show 0 + len + 0 ≤ len; omega) (g := (mkF m 9 #[.val (.ref b), .val (.int (Int32.ofNat o)), .val (.int (Int32.ofNat len)), .val (.ref s.heap.size), .unset, .unset] [.int (Int32.ofNat len), .int (Int32.ofNat 0), .ref s.heap.size, .int (Int32.ofNat o), .ref b])) rfl (by rw [hml]; rfl) c5 (argsL := [.ref b, .int (Int32.ofNat o), .ref s.heap.size, .int (Int32.ofNat 0), .int (Int32.ofNat len)]) (rest := []) rfl rfl (by show 2 * 0 + 0 ≤ _; decide) (hb hbytes d9) (⟨rfl, hA3, ba3, hne, l1, by rw [bs3]; simp, hp⟩)
  obtain ⟨rfl, B6, p6, f6⟩ := E6
  have c7 : Steps p.tables e below (s₁.setTop (entryFrame m #[.ref b, .int (Int32.ofNat o), .int (Int32.ofNat len)] 6)) (T6.setTop (mkF m 12 #[.val (.ref b), .val (.int (Int32.ofNat o)), .val (.int (Int32.ofNat len)), .val (.ref s.heap.size), .unset, .unset] [.int (Int32.ofNat len)])) := g6
  have c8 : Steps p.tables e below (s₁.setTop (entryFrame m #[.ref b, .int (Int32.ofNat o), .int (Int32.ofNat len)] 6)) (T6.setTop (mkF m 58 #[.val (.ref b), .val (.int (Int32.ofNat o)), .val (.int (Int32.ofNat len)), .val (.ref s.heap.size), .val (.int (Int32.ofNat len)), .unset] [.ref s.heap.size])) := c7.trans (by
    refine XS.istore X6.here hexec rfl (hb hbytes d12) rfl rfl ?_
    refine XS.iload X6.here hexec rfl (hb hbytes d14) rfl ?_
    refine XS.iloadN X6.here hexec rfl (hb hbytes d16) rfl ?_
    refine XS.icmpYes X6.here hexec rfl (pc0 := 17) rfl (hb hbytes d17) rfl (ii_eq_t rfl) (by decide) rfl ?_
    refine XS.aloadN X6.here hexec rfl (hb hbytes d57) rfl rfl ?_
    exact Steps.refl _)
  have X8 := X6.wide (L' := []) (cells' := 1) (slots' := len) (fun x hx hlt => by
    simp only [List.nil_append, copyLocs, List.mem_map, List.mem_range] at hx
    obtain ⟨i, -, rfl⟩ := hx
    exact absurd hlt (Nat.lt_irrefl _)) (Nat.le_refl _) (by omega)
  exact ⟨T6, some (.ref s.heap.size), _, _, _, X8, rfl, rfl, rfl, (fun h => by cases h), ⟨⟨rfl, B6, ba3.like (X3.warmed.alike.symm.trans X6.warmed.alike) p6.1 f6.1 f6.2.1 f6.2.2.1, f6.2.1.trans bv3, by rw [X6.warmed.alike.findClass, f6.1]; exact bf3, by rw [f6.2.2.1, bs3]; simp, fun j hj => by rw [f6.2.2.2 j, if_pos (by omega)]; rfl, kp3.put p6 (Nat.le_refl _)⟩, by rw [p6.2.2, bh3, hh0]; simp⟩, fun fs hl => c8.trans (X8.areturnOut hexec rfl hret rfl (hb hbytes d58) hl)⟩
end Cmp3
namespace CodL
def yN : MethodName := ⟨"java/lang/StringUTF16", "coderFromArrayLen", "([BI)B"⟩
abbrev yB : ByteArray := jdk_52_method_15_code
theorem d0 : decode yB 0 = .ok (.iload_n 1, 1) := by decide +kernel
theorem d1 : decode yB 1 = .ok (.aload_n 0, 1) := by decide +kernel
theorem d2 : decode yB 2 = .ok (.arraylength, 1) := by decide +kernel
theorem d3 : decode yB 3 = .ok (.isub, 1) := by decide +kernel
theorem d4 : decode yB 4 = .ok (.bipush 31, 2) := by decide +kernel
theorem d6 : decode yB 6 = .ok (.iushr, 1) := by decide +kernel
theorem d7 : decode yB 7 = .ok (.i2b, 1) := by decide +kernel
theorem d8 : decode yB 8 = .ok (.ireturn, 1) := by decide +kernel
def site : List Cond := []
def tab : Cond := tabOf yN yB 2 (some .byte) site
def P (d : Addr) (B : Cell) (args : Array Value) (s : State) : Prop := args = #[.ref d, .int (Int32.ofNat B.slots.size)] ∧ Arr .byte d B s
def E (r : Option Value) (s u : State) : Prop := XT.PureE (some (.int 0)) r s u
/-- an array as long as the number of chars: LATIN1 -/
theorem law (l : Launch) (d : Addr) (B : Cell) : Law l yN 2 2 0 0 yB 2 (some .byte) site (P d B) E [] 0 0 := by
  refine Law.of_walk (plainFor_of_name (by decide +kernel)) (by decide +kernel) (by decide +kernel) (by decide) (fun _ _ h => by rw [h.1]; rfl) (fun _ U U' hal hh h => ⟨h.1, h.2.mv hal hh⟩) (fun r U U' V V' h1 hal h2 h => XT.PureE.mv r U U' V V' h1 hal h2 h) ?_
  intro p e s m args below meth c s₁ X0 hexec hbytes hml hret hlk hnm hown hh0 W hP
  obtain ⟨rfl, hB⟩ := hP
  have hB0 := hB.mv X0.warmed.alike hh0
  have c1 : Steps p.tables e below (s₁.setTop (entryFrame m #[.ref d, .int (Int32.ofNat B.slots.size)] 2)) (s₁.setTop (mkF m 0 #[.val (.ref d), .val (.int (Int32.ofNat B.slots.size))] [])) := entry rfl
  have c2 : Steps p.tables e below (s₁.setTop (entryFrame m #[.ref d, .int (Int32.ofNat B.slots.size)] 2)) (s₁.setTop (mkF m 2 #[.val (.ref d), .val (.int (Int32.ofNat B.slots.size))] [.ref d, .int (Int32.ofNat B.slots.size)])) := c1.trans (by
    refine XS.iloadN X0.here hexec rfl (hb hbytes d0) rfl ?_
    refine XS.aloadN X0.here hexec rfl (hb hbytes d1) rfl rfl ?_
    exact Steps.refl _)
  have c3 : Steps p.tables e below (s₁.setTop (entryFrame m #[.ref d, .int (Int32.ofNat B.slots.size)] 2)) (s₁.setTop (mkF m 8 #[.val (.ref d), .val (.int (Int32.ofNat B.slots.size))] [.int (lo8 (ushr (Int32.ofNat B.slots.size - Int32.ofNat B.slots.size) 31))])) := c2.trans (by
    refine X0.alen hexec hB0 rfl rfl (hb hbytes d2) ?_
    refine XS.isub X0.here hexec rfl (hb hbytes d3) rfl ?_
    refine bipushV X0.here hexec rfl 31 (hb hbytes d4) (by decide) ?_
    refine iushr X0.here hexec rfl (hb hbytes d6) rfl ?_
    refine i2b X0.here hexec rfl (hb hbytes d7) rfl ?_
    exact Steps.refl _)
  have e0 : lo8 (ushr (Int32.ofNat B.slots.size - Int32.ofNat B.slots.size) 31) = 0 := by rw [Int32.sub_self]; decide
  rw [e0] at c3
  exact ⟨s₁, some (.int 0), _, _, _, X0, rfl, rfl, rfl, (fun h => by cases h), ⟨rfl, hh0⟩, fun fs hl => c3.trans (X0.ireturnOut hexec hret rfl (Or.inr (Or.inr (Or.inl rfl))) (hb hbytes d8) hl)⟩
end CodL
/-- the String at a is Latin-1 over a new byte[] (the heap's one new cell): the low bytes of the len chars of A from o on; every cell but a is kept -/
def Got (a : Addr) (D : Cell) (fV fC : Field) (A : Cell) (o len : Nat) (r : Option Value) (s u : State) : Prop := r = none ∧ ∃ D' V : Cell, Blank "java/lang/String" a D' u ∧ Same D D' [fV.slot, fC.slot] ∧ D'.slots[fV.slot]? = some (.ref s.heap.size) ∧ D'.slots[fC.slot]? = some (.int 0) ∧ Arr .byte s.heap.size V u ∧ V.vm = .none ∧ u.vm.findClass "[B" = some V.cls ∧ V.slots.size = len ∧ (∀ j, j < len → V.slots[j]? = some (.int (lo8 (cv A (o + j))))) ∧ (∀ (y : Addr) (c : Cell), y ≠ a → s.heap[y]? = some c → u.heap[y]? = some c) ∧ u.heap.size = s.heap.size + 1
theorem Got.mv {a : Addr} {D A : Cell} {fV fC : Field} {o len : Nat} : ∀ r (U U' V V' : State), U'.heap = U.heap → V.vm.Alike V'.vm → V'.heap = V.heap → Got a D fV fC A o len r U V → Got a D fV fC A o len r U' V' :=
  fun r U U' V V' h1 hal h2 ⟨e0, D', X, a1, a2, a3, a4, a5, a6, a7, a8, a9, a10, a11⟩ => ⟨e0, D', X, a1.mv hal h2, a2, by rw [h1]; exact a3, a4, by rw [h1]; exact a5.mv hal h2, a6, by rw [hal.findClass]; exact a7, a8, a9, by rw [h1, h2]; exact a10, by rw [h1, h2]; exact a11⟩
namespace New4
def yN : MethodName := ⟨"java/lang/String", "<init>", "([CIILjava/lang/Void;)V"⟩
abbrev yB : ByteArray := jdk_42_method_149_code
theorem d0 : decode yB 0 = .ok (.aload_n 0, 1) := by decide +kernel
theorem d1 : decode yB 1 = .ok (.invokespecial 1, 3) := by decide +kernel
theorem d4 : decode yB 4 = .ok (.iload_n 3, 1) := by decide +kernel
theorem d5 : decode yB 5 = .ok (.ifCond (.ne) 22, 3) := by decide +kernel
theorem d27 : decode yB 27 = .ok (.getstatic 38, 3) := by decide +kernel
theorem d30 : decode yB 30 = .ok (.ifCond (.eq) 28, 3) := by decide +kernel
theorem d33 : decode yB 33 = .ok (.aload_n 1, 1) := by decide +kernel
theorem d34 : decode yB 34 = .ok (.iload_n 2, 1) := by decide +kernel
theorem d35 : decode yB 35 = .ok (.iload_n 3, 1) := by decide +kernel
theorem d36 : decode yB 36 = .ok (.invokestatic 177, 3) := by decide +kernel
theorem d39 : decode yB 39 = .ok (.astore 5, 2) := by decide +kernel
theorem d41 : decode yB 41 = .ok (.aload_n 0, 1) := by decide +kernel
theorem d42 : decode yB 42 = .ok (.aload 5, 2) := by decide +kernel
theorem d44 : decode yB 44 = .ok (.iload_n 3, 1) := by decide +kernel
theorem d45 : decode yB 45 = .ok (.invokestatic 47, 3) := by decide +kernel
theorem d48 : decode yB 48 = .ok (.putfield 15, 3) := by decide +kernel
theorem d51 : decode yB 51 = .ok (.aload_n 0, 1) := by decide +kernel
theorem d52 : decode yB 52 = .ok (.aload 5, 2) := by decide +kernel
theorem d54 : decode yB 54 = .ok (.putfield 9, 3) := by decide +kernel
theorem d57 : decode yB 57 = .ok (.return_, 1) := by decide +kernel
def site : List Cond := [.fieldLink "java/lang/String" 38 "java/lang/String" "COMPACT_STRINGS" "Z", Cmp3.tab, CodL.tab, .laysFinal "java/lang/String" "java/lang/String" "value" "[B", .fieldLink "java/lang/String" 9 "java/lang/String" "value" "[B", .laysFinal "java/lang/String" "java/lang/String" "coder" "B", .fieldLink "java/lang/String" 15 "java/lang/String" "coder" "B"] ++ objW "java/lang/String" 1 ++ staticW "java/lang/String" 177 Cmp3.yN ++ staticW "java/lang/String" 47 CodL.yN
def tab : Cond := tabOf yN yB 6 none site
def P (a : Addr) (D : Cell) (fV fC : Field) (b : Addr) (A : Cell) (z : Int32) (o len : Nat) (args : Array Value) (s : State) : Prop := args = #[.ref a, .ref b, .int (Int32.ofNat o), .int (Int32.ofNat len), .null] ∧ Blank "java/lang/String" a D s ∧ Found "java/lang/String" "value" "[B" fV s ∧ Found "java/lang/String" "coder" "B" fC s ∧ Ch b A s ∧ StaticIs s "java/lang/String" "COMPACT_STRINGS" "Z" (.int z) ∧ ¬ z = 0 ∧ 0 < len ∧ o + len ≤ A.slots.size ∧ len ≤ 536870912 ∧ ∀ i, i < len → ¬ 255 < cv A (o + i)
def E (a : Addr) (D : Cell) (fV fC : Field) (A : Cell) (o len : Nat) (r : Option Value) (s u : State) : Prop := Got a D fV fC A o len r s u
/-- len > 0, no char of the range above 255: a Latin-1 String of their low bytes -/
theorem law (l : Launch) (a : Addr) (D : Cell) (fV fC : Field) (b : Addr) (A : Cell) (z : Int32) (o len : Nat) : Law l yN 5 4 2 35 yB 6 none site (P a D fV fC b A z o len) (E a D fV fC A o len) [⟨a, fC.slot⟩, ⟨a, fV.slot⟩] 1 len := by
  refine Law.of_walk (plainFor_of_name (by decide +kernel)) (by decide +kernel) (by decide +kernel) (by decide) (fun _ _ h => by rw [h.1]; rfl) (fun _ U U' hal hh h => ⟨h.1, h.2.1.mv hal hh, h.2.2.1.al hal, h.2.2.2.1.al hal, h.2.2.2.2.1.mv hal hh, h.2.2.2.2.2.1.there hal hh, h.2.2.2.2.2.2⟩) (fun r U U' V V' h1 hal h2 h => Got.mv r U U' V V' h1 hal h2 h) ?_
  intro p e s m args below meth c s₁ X0 hexec hbytes hml hret hlk hnm hown hh0 W hP
  obtain ⟨rfl, hB, f1, f2, hA, s1, hz, l0, l1, l2, hp⟩ := hP
  have a31 := hA.1.2.2.2
  have c1 : Steps p.tables e below (s₁.setTop (entryFrame m #[.ref a, .ref b, .int (Int32.ofNat o), .int (Int32.ofNat len), .null] 6)) (s₁.setTop (mkF m 0 #[.val (.ref a), .val (.ref b), .val (.int (Int32.ofNat o)), .val (.int (Int32.ofNat len)), .val .null, .unset] [])) := entry rfl
  have c2 : Steps p.tables e below (s₁.setTop (entryFrame m #[.ref a, .ref b, .int (Int32.ofNat o), .int (Int32.ofNat len), .null] 6)) (s₁.setTop (mkF m 1 #[.val (.ref a), .val (.ref b), .val (.int (Int32.ofNat o)), .val (.int (Int32.ofNat len)), .val .null, .unset] [.ref a])) := c1.trans (by
    refine XS.aloadN X0.here hexec rfl (hb hbytes d0) rfl rfl ?_
    exact Steps.refl _)
  obtain ⟨T3, X3, q3, st3⟩ := X0.oinit hexec hown (wks W (objW "java/lang/String" 1)) (g := (mkF m 1 #[.val (.ref a), .val (.ref b), .val (.int (Int32.ofNat o)), .val (.int (Int32.ofNat len)), .val .null, .unset] [.ref a])) rfl (by rw [hml]; rfl) (rest := []) rfl (hb hbytes d1) (W := 0) (by show 2 * 0 + 0 ≤ _; decide) (Nat.le_of_ble_eq_true rfl) (Nat.le_of_ble_eq_true rfl)
  have hh3 := q3.trans hh0
  have c4 : Steps p.tables e below (s₁.setTop (entryFrame m #[.ref a, .ref b, .int (Int32.ofNat o), .int (Int32.ofNat len), .null] 6)) (T3.setTop (mkF m 27 #[.val (.ref a), .val (.ref b), .val (.int (Int32.ofNat o)), .val (.int (Int32.ofNat len)), .val .null, .unset] [])) := (c2.trans (st3 _ (Steps.refl _))).trans (by
    refine XS.iloadN X3.here hexec rfl (hb hbytes d4) rfl ?_
    refine XS.ifYes X3.here hexec rfl (pc0 := 5) rfl (hb hbytes d5) rfl (i0_ne_t (nz32 (by omega) l0)) (by decide) rfl ?_
    exact Steps.refl _)
  obtain ⟨T5, X5, q5, st5⟩ := X3.sget hexec hown (wk W (.fieldLink "java/lang/String" 38 "java/lang/String" "COMPACT_STRINGS" "Z")) s1 (fun _ _ h => by rw [hh3]; exact h) (g := (mkF m 27 #[.val (.ref a), .val (.ref b), .val (.int (Int32.ofNat o)), .val (.int (Int32.ofNat len)), .val .null, .unset] [])) rfl (hb hbytes d27)
  have hh5 := q5.trans hh3
  have c6 : Steps p.tables e below (s₁.setTop (entryFrame m #[.ref a, .ref b, .int (Int32.ofNat o), .int (Int32.ofNat len), .null] 6)) (T5.setTop (mkF m 30 #[.val (.ref a), .val (.ref b), .val (.int (Int32.ofNat o)), .val (.int (Int32.ofNat len)), .val .null, .unset] [.int z])) := c4.trans (st5 _ (Steps.refl _))
  have c7 : Steps p.tables e below (s₁.setTop (entryFrame m #[.ref a, .ref b, .int (Int32.ofNat o), .int (Int32.ofNat len), .null] 6)) (T5.setTop (mkF m 36 #[.val (.ref a), .val (.ref b), .val (.int (Int32.ofNat o)), .val (.int (Int32.ofNat len)), .val .null, .unset] [.int (Int32.ofNat len), .int (Int32.ofNat o), .ref b])) := c6.trans (by
    refine XS.ifNo X5.here hexec rfl (hb hbytes d30) rfl (i0_eq_f hz) ?_
    refine XS.aloadN X5.here hexec rfl (hb hbytes d33) rfl rfl ?_
    refine XS.iloadN X5.here hexec rfl (hb hbytes d34) rfl ?_
    refine XS.iloadN X5.here hexec rfl (hb hbytes d35) rfl ?_
    exact Steps.refl _)
  obtain ⟨v8, T8, X8, E8, g8⟩ := X5.callS hexec (Cmp3.law l b A o len) hown (wks W (staticW "java/lang/String" 177 Cmp3.yN)) (wk W Cmp3.tab) (W := 0) (Nat.le_of_ble_eq_true rfl) (Nat.le_of_ble_eq_true rfl) (Nat.le_refl _) (by show 0 + len ≤ len; omega) (g := (mkF m 36 #[.val (.ref a), .val (.ref b), .val (.int (Int32.ofNat o)), .val (.int (Int32.ofNat len)), .val .null, .unset] [.int (Int32.ofNat len), .int (Int32.ofNat o), .ref b])) rfl (by rw [hml]; rfl) c7 (argsL := [.ref b, .int (Int32.ofNat o), .int (Int32.ofNat len)]) (rest := []) rfl rfl (by show 2 * 0 + 0 ≤ _; decide) (hb hbytes d36) (⟨rfl, hA.mv X5.warmed.alike hh5, l1, l2, hp⟩)
  obtain ⟨e8, z8⟩ := E8
  obtain ⟨rfl, N, n1, n2, n3, n4, n5, n6⟩ := NewArr.mv _ T5 s _ _ hh5.symm (Vm.Alike.refl _) rfl e8
  rw [hh5] at z8
  have hB1 := hB.keep X8.warmed.alike (n6 _ _ hB.1)
  have hne : s.heap.size ≠ a := (Nat.ne_of_lt (Array.getElem?_eq_some_iff.mp hB.1).1).symm
  have c9 : Steps p.tables e below (s₁.setTop (entryFrame m #[.ref a, .ref b, .int (Int32.ofNat o), .int (Int32.ofNat len), .null] 6)) (T8.setTop (mkF m 39 #[.val (.ref a), .val (.ref b), .val (.int (Int32.ofNat o)), .val (.int (Int32.ofNat len)), .val .null, .unset] [.ref s.heap.size])) := g8
  have c10 : Steps p.tables e below (s₁.setTop (entryFrame m #[.ref a, .ref b, .int (Int32.ofNat o), .int (Int32.ofNat len), .null] 6)) (T8.setTop (mkF m 45 #[.val (.ref a), .val (.ref b), .val (.int (Int32.ofNat o)), .val (.int (Int32.ofNat len)), .val .null, .val (.ref s.heap.size)] [.int (Int32.ofNat N.slots.size), .ref s.heap.size, .ref a])) := by
    have hc : Steps p.tables e below (s₁.setTop (entryFrame m #[.ref a, .ref b, .int (Int32.ofNat o), .int (Int32.ofNat len), .null] 6)) (T8.setTop (mkF m 45 #[.val (.ref a), .val (.ref b), .val (.int (Int32.ofNat o)), .val (.int (Int32.ofNat len)), .val .null, .val (.ref s.heap.size)] [.int (Int32.ofNat len), .ref s.heap.size, .ref a])) := c9.trans (by
      refine XS.astore X8.here hexec rfl (hb hbytes d39) rfl rfl rfl ?_
      refine XS.aloadN X8.here hexec rfl (hb hbytes d41) rfl rfl ?_
      refine XS.aload X8.here hexec rfl (hb hbytes d42) rfl rfl ?_
      refine XS.iloadN X8.here hexec rfl (hb hbytes d44) rfl ?_
      exact Steps.refl _)
    rw [n4]; exact hc
  obtain ⟨v11, T11, X11, E11, g11⟩ := X8.callS hexec (CodL.law l s.heap.size N) hown (wks W (staticW "java/lang/String" 47 CodL.yN)) (wk W CodL.tab) (W := 1) (Nat.le_of_ble_eq_true rfl) (Nat.le_of_ble_eq_true rfl) (Nat.le_refl _) (by show 0 + len + 0 ≤ len; omega) (g := (mkF m 45 #[.val (.ref a), .val (.ref b), .val (.int (Int32.ofNat o)), .val (.int (Int32.ofNat len)), .val .null, .val (.ref s.heap.size)] [.int (Int32.ofNat N.slots.size), .ref s.heap.size, .ref a])) rfl (by rw [hml]; rfl) c10 (argsL := [.ref s.heap.size, .int (Int32.ofNat N.slots.size)]) (rest := [.ref a]) rfl rfl (by show 2 * 0 + (1 + 0) ≤ _; decide) (hb hbytes d45) (⟨rfl, n1⟩)
  obtain ⟨rfl, q11⟩ := E11
  have hB11 := hB1.mv (X8.warmed.alike.symm.trans X11.warmed.alike) q11
  have c12 : Steps p.tables e below (s₁.setTop (entryFrame m #[.ref a, .ref b, .int (Int32.ofNat o), .int (Int32.ofNat len), .null] 6)) (T11.setTop (mkF m 48 #[.val (.ref a), .val (.ref b), .val (.int (Int32.ofNat o)), .val (.int (Int32.ofNat len)), .val .null, .val (.ref s.heap.size)] [.int 0, .ref a])) := g11
  obtain ⟨T13, X13, p13, bl13, sl13, st13⟩ := X11.finit hexec hown (wk W (.fieldLink "java/lang/String" 15 "java/lang/String" "coder" "B")) (Or.inr ⟨_, (wk W (.laysFinal "java/lang/String" "java/lang/String" "coder" "B"))⟩) (Or.inl ⟨rfl, hnm⟩) f2 (Or.inl rfl) hB11 (t := .byte) (by decide +kernel) rfl (g := (mkF m 48 #[.val (.ref a), .val (.ref b), .val (.int (Int32.ofNat o)), .val (.int (Int32.ofNat len)), .val .null, .val (.ref s.heap.size)] [.int 0, .ref a])) rfl (rest := []) rfl (hb hbytes d48)
  have c14 : Steps p.tables e below (s₁.setTop (entryFrame m #[.ref a, .ref b, .int (Int32.ofNat o), .int (Int32.ofNat len), .null] 6)) (T13.setTop (mkF m 54 #[.val (.ref a), .val (.ref b), .val (.int (Int32.ofNat o)), .val (.int (Int32.ofNat len)), .val .null, .val (.ref s.heap.size)] [.ref s.heap.size, .ref a])) := (c12.trans (st13 _ (Steps.refl _))).trans (by
    refine XS.aloadN X13.here hexec rfl (hb hbytes d51) rfl rfl ?_
    refine XS.aload X13.here hexec rfl (hb hbytes d52) rfl rfl ?_
    exact Steps.refl _)
  obtain ⟨T15, X15, p15, bl15, sl15, st15⟩ := X13.finit hexec hown (wk W (.fieldLink "java/lang/String" 9 "java/lang/String" "value" "[B")) (Or.inr ⟨_, (wk W (.laysFinal "java/lang/String" "java/lang/String" "value" "[B"))⟩) (Or.inl ⟨rfl, hnm⟩) f1 (Or.inl rfl) bl13 (t := (.array .byte)) (by decide +kernel) rfl (g := (mkF m 54 #[.val (.ref a), .val (.ref b), .val (.int (Int32.ofNat o)), .val (.int (Int32.ofNat len)), .val .null, .val (.ref s.heap.size)] [.ref s.heap.size, .ref a])) rfl (rest := []) rfl (hb hbytes d54)
  have c16 : Steps p.tables e below (s₁.setTop (entryFrame m #[.ref a, .ref b, .int (Int32.ofNat o), .int (Int32.ofNat len), .null] 6)) (T15.setTop (mkF m 57 #[.val (.ref a), .val (.ref b), .val (.int (Int32.ofNat o)), .val (.int (Int32.ofNat len)), .val .null, .val (.ref s.heap.size)] [])) := c14.trans (st15 _ (Steps.refl _))
  have ap := apart (Or.inr ⟨_, (wk W (.laysFinal "java/lang/String" "java/lang/String" "value" "[B"))⟩) (Or.inr ⟨_, (wk W (.laysFinal "java/lang/String" "java/lang/String" "coder" "B"))⟩) f1 f2 (t₁ := .array .byte) (t₂ := .byte) (by decide +kernel) (by decide +kernel) (by decide)
  have al := X8.warmed.alike.symm.trans X15.warmed.alike
  have n7 : T11.heap[s.heap.size]? = some N := by rw [q11]; exact n1.1
  exact ⟨T15, none, _, _, _, X15, by simp, rfl, by omega, (fun _ => rfl), ⟨rfl, _, N, bl15, ((Same.refl D _).set _ (by simp)).set _ (by simp), sl15, (Cell.slots_setSlot_ne _ ap).trans sl13, n1.keep al (p15.other hne (p13.other hne n7)), n2, by rw [al.findClass]; exact n3, n4, n5, fun y c h1 h2 => p15.other h1 (p13.other h1 (by rw [q11]; exact n6 y c h2)), by rw [p15.2.2, p13.2.2, q11]; exact z8⟩, fun fs hl => c16.trans (X15.returnOut hexec hret (hb hbytes d57) hl)⟩
end New4
namespace New1
def yN : MethodName := ⟨"java/lang/String", "<init>", "([C)V"⟩
abbrev yB : ByteArray := jdk_42_method_3_code
theorem d0 : decode yB 0 = .ok (.aload_n 0, 1) := by decide +kernel
theorem d1 : decode yB 1 = .ok (.aload_n 1, 1) := by decide +kernel
theorem d2 : decode yB 2 = .ok (.iconst 0, 1) := by decide +kernel
theorem d3 : decode yB 3 = .ok (.aload_n 1, 1) := by decide +kernel
theorem d4 : decode yB 4 = .ok (.arraylength, 1) := by decide +kernel
theorem d5 : decode yB 5 = .ok (.aconst_null, 1) := by decide +kernel
theorem d6 : decode yB 6 = .ok (.invokespecial 27, 3) := by decide +kernel
theorem d9 : decode yB 9 = .ok (.return_, 1) := by decide +kernel
def site : List Cond := [New4.tab] ++ initW "java/lang/String" 27 New4.yN
def tab : Cond := tabOf yN yB 2 none site
def P (a : Addr) (D : Cell) (fV fC : Field) (b : Addr) (A : Cell) (z : Int32) (args : Array Value) (s : State) : Prop := args = #[.ref a, .ref b] ∧ Blank "java/lang/String" a D s ∧ Found "java/lang/String" "value" "[B" fV s ∧ Found "java/lang/String" "coder" "B" fC s ∧ Ch b A s ∧ StaticIs s "java/lang/String" "COMPACT_STRINGS" "Z" (.int z) ∧ ¬ z = 0 ∧ 0 < A.slots.size ∧ A.slots.size ≤ 536870912 ∧ ∀ i, i < A.slots.size → ¬ 255 < cv A i
def E (a : Addr) (D : Cell) (fV fC : Field) (A : Cell) (r : Option Value) (s u : State) : Prop := Got a D fV fC A 0 A.slots.size r s u
/-- new String(chars), not empty, no char above 255: a Latin-1 String of their low bytes -/
theorem law (l : Launch) (a : Addr) (D : Cell) (fV fC : Field) (b : Addr) (A : Cell) (z : Int32) : Law l yN 2 1 3 52 yB 2 none site (P a D fV fC b A z) (E a D fV fC A) [⟨a, fC.slot⟩, ⟨a, fV.slot⟩] 1 A.slots.size := by
  refine Law.of_walk (plainFor_of_name (by decide +kernel)) (by decide +kernel) (by decide +kernel) (by decide) (fun _ _ h => by rw [h.1]; rfl) (fun _ U U' hal hh h => ⟨h.1, h.2.1.mv hal hh, h.2.2.1.al hal, h.2.2.2.1.al hal, h.2.2.2.2.1.mv hal hh, h.2.2.2.2.2.1.there hal hh, h.2.2.2.2.2.2⟩) (fun r U U' V V' h1 hal h2 h => Got.mv r U U' V V' h1 hal h2 h) ?_
  intro p e s m args below meth c s₁ X0 hexec hbytes hml hret hlk hnm hown hh0 W hP
  obtain ⟨rfl, hB, f1, f2, hA, s1, hz, l0, l2, hp⟩ := hP
  have c1 : Steps p.tables e below (s₁.setTop (entryFrame m #[.ref a, .ref b] 2)) (s₁.setTop (mkF m 0 #[.val (.ref a), .val (.ref b)] [])) := entry rfl
  have c2 : Steps p.tables e below (s₁.setTop (entryFrame m #[.ref a, .ref b] 2)) (s₁.setTop (mkF m 6 #[.val (.ref a), .val (.ref b)] [.null, .int (Int32.ofNat A.slots.size), .int 0, .ref b, .ref a])) := c1.trans (by
    refine XS.aloadN X0.here hexec rfl (hb hbytes d0) rfl rfl ?_
    refine XS.aloadN X0.here hexec rfl (hb hbytes d1) rfl rfl ?_
    refine iconstV X0.here hexec rfl 0 (hb hbytes d2) (by decide) ?_
    refine XS.aloadN X0.here hexec rfl (hb hbytes d3) rfl rfl ?_
    refine X0.alen hexec (hA.1.mv X0.warmed.alike hh0) rfl rfl (hb hbytes d4) ?_
    refine XS.aconstNull X0.here hexec rfl (hb hbytes d5) ?_
    exact Steps.refl _)
  obtain ⟨v3, T3, X3, E3, g3⟩ := X0.callN hexec (New4.law l a D fV fC b A z 0 A.slots.size) rfl hown (wks W (initW "java/lang/String" 27 New4.yN)) (W New4.tab (by simp only [site, List.mem_cons, List.mem_append, true_or, or_true])) (W := 0) (Nat.le_of_ble_eq_true rfl) (Nat.le_of_ble_eq_true rfl) (Nat.le_refl _) (by show 0 + A.slots.size ≤ A.slots.size; omega) (g := (mkF m 6 #[.val (.ref a), .val (.ref b)] [.null, .int (Int32.ofNat A.slots.size), .int (Int32.ofNat 0), .ref b, .ref a])) rfl (by rw [hml]; rfl) c2 (argsL := [.ref b, .int (Int32.ofNat 0), .int (Int32.ofNat A.slots.size), .null]) (rest := []) rfl rfl (by show 2 * 0 + 0 ≤ _; decide) (hb hbytes d6) (⟨rfl, hB.mv X0.warmed.alike hh0, f1.al X0.warmed.alike, f2.al X0.warmed.alike, hA.mv X0.warmed.alike hh0, s1.there X0.warmed.alike hh0, hz, l0, by omega, l2, fun i hi => by rw [Nat.zero_add]; exact hp i hi⟩)
  have e0 := Got.mv _ s₁ s _ _ hh0.symm (Vm.Alike.refl _) rfl E3
  obtain rfl := e0.1
  have c4 : Steps p.tables e below (s₁.setTop (entryFrame m #[.ref a, .ref b] 2)) (T3.setTop (mkF m 9 #[.val (.ref a), .val (.ref b)] [])) := g3
  exact ⟨T3, none, _, _, _, X3, by simp, rfl, by omega, (fun _ => rfl), e0, fun fs hl => c4.trans (X3.returnOut hexec hret (hb hbytes d9) hl)⟩
theorem pays {l : Launch} {R : Room} {p : Program} {e : Env} {below : List Frame} {s : State} {sargs : Array Value} {len W : Nat} (a : Addr) (D : Cell) (fV fC : Field) (b : Addr) (A : Cell) (z : Int32) (htab : tab.before sargs s = true) (hfr : 4 ≤ R.frames) (hlo : W + 65 ≤ R.locals) :
    Back l R p e below s sargs yN len W (fun A₁ a₁ => A₁.cells + 1 ≤ R.cells ∧ A₁.slots + A.slots.size ≤ R.slots ∧ P a D fV fC b A z a₁ A₁.U) (fun A₁ _ v₁ B₁ => E a D fV fC A v₁ A₁.U B₁.U ∧ B₁.locs = A₁.locs ++ [⟨a, fC.slot⟩, ⟨a, fV.slot⟩] ∧ B₁.cells = A₁.cells + 1 ∧ B₁.slots = A₁.slots + A.slots.size) :=
  (law l a D fV fC b A z).pays htab hfr (by omega)
end New1
/-- the byte, read back as charAt reads it, is the char -/
theorem lo8_mask {x : Int32} (h0 : ¬ x < 0) (h1 : ¬ 255 < x) : lo8 x &&& 255 = x := by
  have t : ∀ k : Fin 256, lo8 (Int32.ofNat k.val) &&& 255 = Int32.ofNat k.val := by decide +kernel
  rw [Int32.lt_iff_toInt_lt] at h0 h1
  have e0 : (0 : Int32).toInt = 0 := rfl
  have e1 : (255 : Int32).toInt = 255 := rfl
  obtain ⟨k, hk⟩ : ∃ k : Nat, x.toInt = k := ⟨x.toInt.toNat, by omega⟩
  have hx : x = Int32.ofNat k := Int32.toInt_inj.mp (by rw [hk, Int32.toInt_ofNat_small (by omega)])
  rw [hx]
  exact t ⟨k, by omega⟩
end StrChars
namespace StrChars.Road
open Jvm Sem ClassFile Op Lib Jvm.Stand Jvm.Free Jvm.Free.XT
open Jvm.Lib.Cold (StaticIs)
abbrev ST : String := "java/lang/String"
/-- every table word that New1's law asks, flat -/
abbrev words : List Jvm.Cond := [.code New1.yN New1.yB 2 none, .initialized ST, .methodLink ST 27 New4.yN, .instanceMethod New4.yN,
  .code New4.yN New4.yB 6 none, .fieldLink ST 38 ST "COMPACT_STRINGS" "Z", .laysFinal ST ST "value" "[B", .fieldLink ST 9 ST "value" "[B", .laysFinal ST ST "coder" "B", .fieldLink ST 15 ST "coder" "B",
  .methodLink ST 1 Lib.objectInit, .instanceMethod Lib.objectInit, .code Lib.objectInit ⟨#[0xb1]⟩ 1 none, .methodLink ST 177 Cmp3.yN, .static Cmp3.yN, .methodLink ST 47 CodL.yN, .static CodL.yN,
  .code Cmp3.yN Cmp3.yB 6 (some (.array .byte)), .initialized U16, .arrayClass .byte, .methodLink U16 115 Cmp5.yN, .static Cmp5.yN, .code Cmp5.yN Cmp5.yB 7 (some .int), .code CodL.yN CodL.yB 2 (some .byte)]
theorem tab_of {a : Array Value} {s : State} (h : ∀ w ∈ words, w.before a s = true) : New1.tab.before a s = true := by
  have h5 : Cmp5.tab.before a s = true := unparts (wk h (.code Cmp5.yN Cmp5.yB 7 (some .int))) (wks h (.initialized Cmp5.yN.cls :: Cmp5.site))
  have hc : CodL.tab.before a s = true := unparts (wk h (.code CodL.yN CodL.yB 2 (some .byte))) (wks h (.initialized CodL.yN.cls :: CodL.site))
  have q5 : ∀ w ∈ Cmp5.tab :: words, w.before a s = true := fun w hw => (List.mem_cons.mp hw).elim (fun e => e ▸ h5) (h w)
  have h3 : Cmp3.tab.before a s = true := unparts (wk q5 (.code Cmp3.yN Cmp3.yB 6 (some (.array .byte)))) (wks q5 (.initialized Cmp3.yN.cls :: Cmp3.site))
  have q3 : ∀ w ∈ Cmp3.tab :: CodL.tab :: words, w.before a s = true := fun w hw => (List.mem_cons.mp hw).elim (fun e => e ▸ h3) fun hw => (List.mem_cons.mp hw).elim (fun e => e ▸ hc) (h w)
  have h4 : New4.tab.before a s = true := unparts (wk q3 (.code New4.yN New4.yB 6 none)) (wks q3 (.initialized New4.yN.cls :: New4.site))
  have q4 : ∀ w ∈ New4.tab :: words, w.before a s = true := fun w hw => (List.mem_cons.mp hw).elim (fun e => e ▸ h4) (h w)
  exact unparts (wk q4 (.code New1.yN New1.yB 2 none)) (wks q4 (.initialized New1.yN.cls :: New1.site))
/-- the words ride from the start Z to the walk's own state -/
theorem moved {Z s : State} {a0 args : Array Value} (hZ : Z.Warmed39 s.vm) (hw : ∀ d ∈ words, d.before a0 Z = true) : ∀ d ∈ words, d.before args s = true := fun d hd => by
  have q := hw d hd
  have t : ∀ d ∈ words, d = .arrayClass .byte ∨ (d.onTables && d.keepsFace) = true := by decide +kernel
  rcases t d hd with rfl | t
  · exact RoadKit.mvA hZ q
  · exact RoadKit.mv hZ q t
/-- WHAT COMES BACK, over the tables of the start Z: h the heap at the call, h' behind it -/
def Q (Z : State) (x : Addr) (A : Cell) (h : Heap) (v : Option Value) (h' : Heap) (L : List Loc) : Prop := v = none ∧ (∀ y ∈ L, y.base = x) ∧ RoadKit.Keep h h' [x] ∧ h'.size = h.size + 1 ∧ RoadKit.Exa Z h' x ST ∧ RoadKit.Fld Z h' x ST "value" "[B" (.ref h.size) ∧ RoadKit.Fld Z h' x ST "coder" "B" (.int 0) ∧
  (∃ V : Cell, RoadKit.Arr Z h' h.size V .byte ∧ V.vm = .none ∧ Z.vm.findClass "[B" = some V.cls ∧ V.slots.size = A.slots.size ∧ ∀ j, j < A.slots.size → V.slots[j]? = some (.int (lo8 (cv A j)))) ∧
  ∀ (O n d : String) (w : Value), RoadKit.Fld Z h x O n d w → RoadKit.slotOf Z O n d ≠ RoadKit.slotOf Z ST "value" "[B" → RoadKit.slotOf Z O n d ≠ RoadKit.slotOf Z ST "coder" "B" → RoadKit.Fld Z h' x O n d w
/-- **new String(chars) AT A CALL, IN THE ROAD'S FORM**: for specialBack behind newO: x the fresh String, b the char[] with the cell A -/
theorem back {p : Program} {l : Launch} {e : Env} {R : Room} {s : State} {args : Array Value} {below : List Frame} {len W : Nat} {Z : State} {a0 : Array Value} {h : Heap} (hZ : Z.Warmed39 s.vm) (hw : ∀ d ∈ words, d.before a0 Z = true) {kI : Nat} (wi : (Jvm.Cond.instantiable ST kI).before a0 Z = true)
    {x b : Addr} {A : Cell} {z : Int32} {v0 c0 : Value} (E : RoadKit.Exa Z h x ST) (V : RoadKit.Fld Z h x ST "value" "[B" v0) (C : RoadKit.Fld Z h x ST "coder" "B" c0) (K : RoadKit.Arr Z h b A .char) (hty : Typed .char A) (S : RoadKit.Sta Z h ST "COMPACT_STRINGS" "Z" (.int z)) (hz : ¬ z = 0)
    (l0 : 0 < A.slots.size) (l2 : A.slots.size ≤ 536870912) (hp : ∀ i, i < A.slots.size → ¬ 255 < cv A i) (hfr : 4 ≤ R.frames) (hlo : W + 65 ≤ R.locals) :
    Back l R p e below s args New1.yN len W (fun P a => a = #[.ref x, .ref b] ∧ P.U.heap = h ∧ P.cells + 1 ≤ R.cells ∧ P.slots + A.slots.size ≤ R.slots)
      (fun P _ v B => ∃ L, Q Z x A h v B.U.heap L ∧ B.locs = P.locs ++ L ∧ B.cells = P.cells + 1 ∧ B.slots = P.slots + A.slots.size) := by
  intro m meth c P g ig mk a X hg hsize hdg hW hn hp'
  obtain ⟨rfl, rfl, r1, r2⟩ := hp'
  have al : Z.vm.Alike P.U.vm := hZ.alike.trans X.warmed.alike
  obtain ⟨D, cfV, kV, iV, fV, hD, gV, stV, knV, obV, asV, slV⟩ := id V
  obtain ⟨D', cfC, kC, iC, fC, hD', gC, stC, -, -, asC, slC⟩ := id C
  cases hD.symm.trans hD'
  obtain ⟨D2, kD, e1, e2, e3, e4, e5⟩ := id E
  cases hD.symm.trans e1
  obtain ⟨c2, k2, i1, i2, i3, -⟩ := Cond.instantiable_spec wi
  cases e2.symm.trans i1
  cases e3.symm.trans i2
  obtain ⟨kU, u1, u2⟩ := al.2.2 _ _ e3
  have hB : Blank ST x D P.U := ⟨hD, ⟨knV, fun q hq => by rw [hq] at obV; cases obV⟩, by rw [al.findClass]; exact e2, kU, u1, by rw [u2]; exact i3, by rw [u2]; exact e5 i3⟩
  have F1 : Found ST "value" "[B" fV P.U := ⟨SBG.found_only al ⟨cfV, kV, iV, gV⟩, stV⟩
  have F2 : Found ST "coder" "B" fC P.U := ⟨SBG.found_only al ⟨cfC, kC, iC, gC⟩, stC⟩
  have hA : Ch b A P.U := ⟨⟨K.1, State.isArrayOf_alike al K.2.1, K.2.2, by omega⟩, hty⟩
  have hS : StaticIs P.U ST "COMPACT_STRINGS" "Z" (.int z) := by
    obtain ⟨cfS, iS, kS, fS, st, cS, t1, t2, t3, t4, t5, t6, t7⟩ := S
    exact StaticIs.there (s := { Z with heap := P.U.heap }) ⟨cfS, iS, kS, fS, st, cS, t1, t2, t3, t4, t5, (fun q => by rw [q] at t6; cases t6), t7⟩ al rfl
  obtain ⟨v, B, X', ⟨⟨hv, E', V', q1, q2, q3, q4, q5, q6, q7, q8, q9, q10, q11⟩, hl, hc, hs⟩, st⟩ := New1.pays x D fV fC b A z (tab_of (moved hZ hw)) hfr hlo m meth c P g ig mk _ X hg hsize hdg hW hn ⟨r1, r2, rfl, hB, F1, F2, hA, hS, hz, l0, l2, hp⟩
  have al' : Z.vm.Alike B.U.vm := hZ.alike.trans X'.warmed.alike
  have hsz : E'.slots.size = D.slots.size := by
    obtain ⟨-, -, -, kB, w1, w2, w3⟩ := q1
    obtain ⟨kB', y1, y2⟩ := al'.2.2 _ _ e3
    rw [q2.2.1] at w1
    cases w1.symm.trans y1
    rw [w3, e5 i3, y2]
  refine ⟨v, B, X', ⟨_, ⟨hv, ?_, ⟨by omega, fun y cy hy hn' => q10 y cy (by simpa using hn') hy, fun y cy hy => ?_⟩, q11, ⟨E', _, q1.1, by rw [q2.2.1]; exact e2, by rw [q2.2.1]; exact e3, by rw [q2.1]; exact obV, fun _ => by rw [hsz]; exact e5 i3⟩,
    ⟨E', cfV, kV, iV, fV, q1.1, gV, stV, by rw [q2.1]; exact knV, by rw [q2.1]; exact obV, by rw [q2.2.1]; exact asV, q3⟩, ⟨E', cfC, kC, iC, fC, q1.1, gC, stC, by rw [q2.1]; exact knV, by rw [q2.1]; exact obV, by rw [q2.2.1]; exact asC, q4⟩,
    ⟨V', ⟨q5.1, State.isArrayOf_alike al'.symm q5.2.1, q5.2.2.1⟩, q6, by rw [← al'.findClass]; exact q7, q8, fun j hj => by have := q9 j hj; rwa [Nat.zero_add] at this⟩, fun O n d w F n1 n2 => ?_⟩, hl, hc, hs⟩, st⟩
  · intro y hy
    simp only [List.mem_cons, List.not_mem_nil, or_false] at hy
    rcases hy with rfl | rfl <;> rfl
  · by_cases q : y = x
    · subst q
      cases hD.symm.trans hy
      exact ⟨E', q1.1, q2.2.1, q2.1, hsz⟩
    · exact ⟨cy, q10 y cy q hy, rfl, rfl, rfl⟩
  · obtain ⟨D3, cf, k, i, f, g1, g2, g3, g4, g5, g6, g7⟩ := F
    cases hD.symm.trans g1
    simp only [RoadKit.slotOf, g2, gV, gC, Option.map_some, Option.getD_some] at n1 n2
    exact ⟨E', cf, k, i, f, q1.1, g2, g3, by rw [q2.1]; exact g4, by rw [q2.1]; exact g5, by rw [q2.2.1]; exact g6, by rw [q2.2.2 f.slot (by simp [n1, n2])]; exact g7⟩
end StrChars.Road
namespace StrChars.Road
open Jvm Sem ClassFile Op Lib Jvm.Stand Jvm.Free Jvm.Free.XT
/-- WHAT COMES BACK, the byte[] as a list of values -/
def QA (Z : State) (x : Addr) (zn : Int32) (cs : List Int32) (h : Heap) (v : Option Value) (h' : Heap) (L : List Loc) : Prop := v = none ∧ (∀ y ∈ L, y.base = x) ∧ RoadKit.Keep h h' [x] ∧ h'.size = h.size + 1 ∧ RoadKit.Exa Z h' x ST ∧ RoadKit.Fld Z h' x ST "value" "[B" (.ref h.size) ∧ RoadKit.Fld Z h' x ST "coder" "B" (.int 0) ∧
  (∃ kb, Z.vm.findClass "[B" = some kb ∧ RoadKit.Arv Z h' h.size kb .byte zn (cs.map fun c => .int (lo8 c)) (.int 0)) ∧
  ∀ (O n d : String) (w : Value), RoadKit.Fld Z h x O n d w → RoadKit.slotOf Z O n d ≠ RoadKit.slotOf Z ST "value" "[B" → RoadKit.slotOf Z O n d ≠ RoadKit.slotOf Z ST "coder" "B" → RoadKit.Fld Z h' x O n d w
/-- **new String(chars) AT A CALL, THE ARRAYS AS LISTS**: the char[] at b holds cs, not empty, no char above 255 -/
theorem backArv {p : Program} {l : Launch} {e : Env} {R : Room} {s : State} {args : Array Value} {below : List Frame} {len W : Nat} {Z : State} {a0 : Array Value} {h : Heap} (hZ : Z.Warmed39 s.vm) (hw : ∀ d ∈ words, d.before a0 Z = true) {kI : Nat} (wi : (Jvm.Cond.instantiable ST kI).before a0 Z = true)
    {x b : Addr} {k : ClassId} {zn z : Int32} {cs : List Int32} {dv v0 c0 : Value} (E : RoadKit.Exa Z h x ST) (V : RoadKit.Fld Z h x ST "value" "[B" v0) (C : RoadKit.Fld Z h x ST "coder" "B" c0) (K : RoadKit.Arv Z h b k .char zn (cs.map Value.int) dv) (S : RoadKit.Sta Z h ST "COMPACT_STRINGS" "Z" (.int z)) (hz : ¬ z = 0)
    (hlen : zn.toNatClampNeg = cs.length) (h0 : 0 < cs.length) (hbig : cs.length ≤ 536870912) (hall : ∀ c ∈ cs, ¬ 255 < c) (hfr : 4 ≤ R.frames) (hlo : W + 65 ≤ R.locals) :
    Back l R p e below s args New1.yN len W (fun P a => a = #[.ref x, .ref b] ∧ P.U.heap = h ∧ P.cells + 1 ≤ R.cells ∧ P.slots + cs.length ≤ R.slots)
      (fun P _ v B => ∃ L, QA Z x zn cs h v B.U.heap L ∧ B.locs = P.locs ++ L ∧ B.cells = P.cells + 1 ∧ B.slots = P.slots + cs.length) := by
  obtain ⟨A, K1, K2, K3, K4, K5, K6⟩ := K
  have e : A.slots.size = cs.length := K3.trans hlen
  have hat : ∀ (i : Nat) (hi : i < cs.length), A.slots[i]? = some (.int cs[i]) := fun i hi => by rw [K5 i (by omega)]; simp [List.getD_eq_getElem?_getD, hi]
  have hcv : ∀ (i : Nat) (hi : i < cs.length), cv A i = cs[i] := fun i hi => by unfold cv; rw [hat i hi]
  have hty : Typed .char A := fun i v hv => by
    have hi : i < A.slots.size := (Array.getElem?_eq_some_iff.mp hv).1
    have q := K5 i hi
    rw [hv] at q
    rw [Option.some.inj q]
    exact K6 i hi
  refine Back.mono (back hZ hw wi E V C K1 hty S hz (by omega) (by omega) (fun i hi => by rw [hcv i (by omega)]; exact hall _ (List.getElem_mem _)) hfr hlo) (fun P a hp => ⟨hp.1, hp.2.1, hp.2.2.1, by rw [e]; exact hp.2.2.2⟩) (fun P a v B hp hq => ?_)
  obtain ⟨L, ⟨q1, q2, q3, q4, q5, q6, q7, ⟨V', v1, v2, v3, v4, v5⟩, q9⟩, hl, hc, hs⟩ := hq
  refine ⟨L, ⟨q1, q2, q3, q4, q5, q6, q7, ⟨V'.cls, v3, V', v1, rfl, by rw [v4, e, hlen], K4, fun i hi => ?_, fun i hi => ?_⟩, q9⟩, hl, hc, by rw [hs, e]⟩
  · have hi' : i < cs.length := by omega
    rw [v5 i (by omega), hcv i hi']; simp [List.getD_eq_getElem?_getD, hi']
  · have hi' : i < cs.length := by omega
    simp only [List.getD_eq_getElem?_getD, List.getElem?_map, List.getElem?_eq_getElem hi', Option.map_some, Option.getD_some]
    exact fits_lo8 _
end StrChars.Road
namespace StrChars.Road
open Jvm Sem ClassFile Op Lib Jvm.Stand Jvm.Free Jvm.Free.XT
/-- WHAT COMES BACK, in the writer's own shape -/
def QV (Z : State) (x : Addr) (N : Int32) (bs : List Int32) (h : Heap) (n0 : Nat) (v : Option Value) (h' : Heap) (L : List Loc) : Prop := v = none ∧ RoadKit.Fr n0 L ∧ RoadKit.Keep h h' [x] ∧ RoadKit.Exa Z h' x ST ∧ RoadKit.Fld Z h' x ST "coder" "B" (.int 0) ∧
  ∃ (t : Addr) (kb : ClassId), n0 ≤ t ∧ h.size ≤ t ∧ ¬ t = x ∧ RoadKit.Fld Z h' x ST "value" "[B" (.ref t) ∧ RoadKit.Arv Z h' t kb .byte N (bs.map Value.int) (.int 0)
/-- **new String(chars) AT A CALL, FOR THE WRITER**: a char[] of n known ints, each 0 to 255 -/
theorem backV {p : Program} {l : Launch} {e : Env} {R : Room} {s : State} {args : Array Value} {below : List Frame} {len W : Nat} {Z : State} {a0 : Array Value} {h : Heap} (hZ : Z.Warmed39 s.vm) (hw : ∀ d ∈ words, d.before a0 Z = true) {kI : Nat} (wi : (Jvm.Cond.instantiable ST kI).before a0 Z = true)
    {x b : Addr} {kC : ClassId} {cs bs : List Int32} {d v0 c0 : Value} {z N : Int32} {n n0 : Nat} (hx0 : n0 ≤ x) (hh0 : n0 ≤ h.size) (E : RoadKit.Exa Z h x ST) (V : RoadKit.Fld Z h x ST "value" "[B" v0) (C : RoadKit.Fld Z h x ST "coder" "B" c0) (K : RoadKit.Arv Z h b kC .char N (cs.map Value.int) d) (S : RoadKit.Sta Z h ST "COMPACT_STRINGS" "Z" (.int z)) (hz : ¬ z = 0)
    (hn : cs.length = n) (hN : N = Int32.ofNat n) (l0 : 0 < n) (l2 : n ≤ 4000) (hp : ∀ c ∈ cs, ¬ c < 0 ∧ ¬ (255 : Int32) < c) (hb : bs = cs.map (fun c => c.toInt8.toInt32)) (hfr : 4 ≤ R.frames) (hlo : W + 65 ≤ R.locals) :
    Back l R p e below s args (⟨"java/lang/String", "<init>", "([C)V"⟩ : MethodName) len W (fun P a => a = #[.ref x, .ref b] ∧ P.U.heap = h ∧ P.cells + 1 ≤ R.cells ∧ P.slots + n ≤ R.slots)
      (fun P _ v B => ∃ L, QV Z x N bs h n0 v B.U.heap L ∧ B.locs = P.locs ++ L ∧ B.cells = P.cells + 1 ∧ B.slots = P.slots + n) := by
  subst hn hN hb
  refine Back.mono (backArv hZ hw wi E V C K S hz (n32 (by omega)) l0 (by omega) (fun c hc => (hp c hc).2) hfr hlo) (fun P a hp => hp) (fun P a v B hp hq => ?_)
  obtain ⟨L, ⟨q1, q2, q3, q4, q5, q6, q7, ⟨kb, v1, v2⟩, q9⟩, hl, hc, hs⟩ := hq
  exact ⟨L, ⟨q1, fun y hy => by rw [q2 y hy]; exact hx0, q3, q5, q7, h.size, kb, hh0, Nat.le_refl _, Nat.ne_of_gt E.lt, q6, by rw [List.map_map]; exact v2⟩, hl, hc, hs⟩
end StrChars.Road
namespace StrChars
open Jvm Sem ClassFile Op Lib Jvm.Stand Jvm.Free.XT Jvm.Free.ALB Jvm.Free.JM Jvm.Free
open Jvm.Lib.Cold (StaticIs)
def hi8 (x : Int32) : Int32 := lo8 (x >>> ((8 : Int32) &&& 31))
/-- what StringUTF16.getChar makes of two bytes -/
def pairCh (u v : Int32) : Int32 := (((u &&& 255) <<< ((0 : Int32) &&& 31)) ||| ((v &&& 255) <<< ((8 : Int32) &&& 31))).toUInt32.toUInt16.toUInt32.toInt32
theorem shr0 (c : Int32) : c >>> ((0 : Int32) &&& 31) = c := by
  have e : ((0 : Int32) &&& 31) = 0 := by decide
  rw [e]
  apply Int32.toBitVec_inj.mp
  rw [Int32.toBitVec_shiftRight]
  have e1 : ((0 : Int32).toBitVec.smod 32) = 0#32 := by decide
  rw [e1, BitVec.sshiftRight_eq']
  exact BitVec.sshiftRight_zero
theorem lo8_and (x : Int32) : (lo8 x &&& 255).toBitVec.toNat = x.toBitVec.toNat % 256 := by
  have h : (lo8 x).toBitVec = (x.toBitVec.signExtend 8).signExtend 32 := by rw [lo8, Int8.toBitVec_toInt32, Int32.toBitVec_toInt8]
  rw [Int32.toBitVec_and, BitVec.toNat_and, h]
  have e : ((x.toBitVec.signExtend 8).signExtend 32).toNat % 256 = x.toBitVec.toNat % 256 := by
    rw [BitVec.toNat_signExtend]
    have hlt := x.toBitVec.isLt
    simp only [BitVec.toNat_setWidth, BitVec.toNat_signExtend]
    split <;> split <;> omega
  rw [← e]
  exact Nat.and_two_pow_sub_one_eq_mod _ 8
theorem pair_says {c : Int32} (h0 : ¬ c < 0) (h1 : ¬ 65535 < c) : pairCh (lo8 c) (hi8 c) = c := by
  rw [Int32.lt_iff_toInt_lt] at h0 h1
  have e0 : (0 : Int32).toInt = 0 := rfl
  have e1 : (65535 : Int32).toInt = 65535 := rfl
  have hc : c.toInt = c.toBitVec.toNat := by
    have := c.toBitVec.isLt
    have e : c.toInt = c.toBitVec.toInt := rfl
    rw [e] at h0 h1
    rw [e]
    rw [BitVec.toInt_eq_toNat_cond] at h0 h1 ⊢
    split at h0 <;> split <;> omega
  have hn : c.toBitVec.toNat < 65536 := by omega
  have a1 := lo8_and c
  have a2 : (hi8 c &&& 255).toBitVec.toNat = c.toBitVec.toNat / 256 := by
    rw [hi8, lo8_and]
    have e : ((8 : Int32) &&& 31) = 8 := by decide
    rw [e, Int32.toBitVec_shiftRight]
    have e2 : ((8 : Int32).toBitVec.smod 32) = 8#32 := by decide
    rw [e2, BitVec.sshiftRight_eq', BitVec.toNat_sshiftRight_of_msb_false (by rw [BitVec.msb_eq_false_iff_two_mul_lt]; omega)]
    show c.toBitVec.toNat >>> 8 % 256 = _
    rw [Nat.shiftRight_eq_div_pow]
    omega
  unfold pairCh
  apply Int32.toBitVec_inj.mp
  apply BitVec.eq_of_toNat_eq
  have f0 : ((0 : Int32) &&& 31) = 0 := by decide
  have f8 : ((8 : Int32) &&& 31) = 8 := by decide
  rw [f0, f8]
  have g : (((lo8 c &&& 255) <<< (0 : Int32)) ||| ((hi8 c &&& 255) <<< (8 : Int32))).toBitVec.toNat = c.toBitVec.toNat := by
    rw [Int32.toBitVec_or, Int32.toBitVec_shiftLeft, Int32.toBitVec_shiftLeft]
    have s0 : ((0 : Int32).toBitVec.smod 32) = 0#32 := by decide
    have s8 : ((8 : Int32).toBitVec.smod 32) = 8#32 := by decide
    rw [s0, s8, BitVec.toNat_or]
    simp only [BitVec.shiftLeft_eq', BitVec.toNat_shiftLeft, a1, a2]
    show (c.toBitVec.toNat % 256) <<< 0 % 2 ^ 32 ||| (c.toBitVec.toNat / 256) <<< 8 % 2 ^ 32 = _
    rw [Nat.shiftLeft_zero, Nat.mod_eq_of_lt (show c.toBitVec.toNat % 256 < 2 ^ 32 by omega), Nat.mod_eq_of_lt (show (c.toBitVec.toNat / 256) <<< 8 < 2 ^ 32 by rw [Nat.shiftLeft_eq]; omega), Nat.or_comm, ← Nat.shiftLeft_add_eq_or_of_lt (by omega), Nat.shiftLeft_eq]
    omega
  show BitVec.toNat (((((lo8 c &&& 255) <<< (0 : Int32)) ||| ((hi8 c &&& 255) <<< (8 : Int32))).toBitVec.setWidth 16).setWidth 32) = _
  rw [BitVec.toNat_setWidth, BitVec.toNat_setWidth, g]
  omega
end StrChars
namespace StrChars
open Jvm Sem ClassFile Op Lib Jvm.Stand Jvm.Free.XT Jvm.Free.ALB Jvm.Free.JM Jvm.Free
open Jvm.Lib.Cold (StaticIs)
theorem shr1 {n : Nat} (h : 2 * n < 2 ^ 31) : Int32.ofNat (2 * n) >>> ((1 : Int32) &&& 31) = Int32.ofNat n := by
  have e : ((1 : Int32) &&& 31) = 1 := by decide
  rw [e]
  apply Int32.toBitVec_inj.mp
  rw [Int32.toBitVec_shiftRight]
  have e1 : ((1 : Int32).toBitVec.smod 32) = 1#32 := by decide
  have hm : (BitVec.ofNat 32 (2 * n)).toNat = 2 * n := by rw [BitVec.toNat_ofNat, Nat.mod_eq_of_lt (by omega)]
  rw [e1, BitVec.sshiftRight_eq']
  apply BitVec.eq_of_toNat_eq
  show ((BitVec.ofNat 32 (2 * n)).sshiftRight 1).toNat = (BitVec.ofNat 32 n).toNat
  rw [BitVec.toNat_sshiftRight_of_msb_false (by rw [BitVec.msb_eq_false_iff_two_mul_lt, hm]; omega), hm, BitVec.toNat_ofNat, Nat.shiftRight_eq_div_pow]
  omega
/-- the array's cell V codes the n chars f 0 .. f (n - 1) by the coder cd, as the JDK does: coder 1 just where some char is above 255 -/
def Cod (cd : Int32) (n : Nat) (f : Nat → Int32) (V : Cell) : Prop := (cd = 0 ∧ V.slots.size = n ∧ ∀ j, j < n → V.slots[j]? = some (.int (lo8 (f j))) ∧ ¬ 255 < f j) ∨ (cd = 1 ∧ V.slots.size = 2 * n ∧ (∀ j, j < n → V.slots[2 * j]? = some (.int (lo8 (f j))) ∧ V.slots[2 * j + 1]? = some (.int (hi8 (f j)))) ∧ ∃ j, j < n ∧ 255 < f j)
theorem Cod.cd {cd : Int32} {n : Nat} {f : Nat → Int32} {V : Cell} (h : Cod cd n f V) : cd = 0 ∨ cd = 1 := h.imp (fun q => q.1) fun q => q.1
theorem Cod.len {cd : Int32} {n : Nat} {f : Nat → Int32} {V : Cell} (h : Cod cd n f V) (hs : V.slots.size < 2 ^ 31) : Int32.ofNat V.slots.size >>> (cd &&& 31) = Int32.ofNat n := by
  rcases h with ⟨rfl, h, -⟩ | ⟨rfl, h, -⟩
  · rw [shr0, h]
  · rw [h, shr1 (by omega)]
/-- **x is a String of the n chars f 0 .. f (n - 1)**, Latin-1 or UTF-16; its array at t has the cell V -/
def Txt (x t : Addr) (V : Cell) (cd : Int32) (n : Nat) (f : Nat → Int32) (U : State) : Prop := Exact "java/lang/String" x U ∧ Has x "java/lang/String" "value" "[B" (.ref t) U ∧ Has x "java/lang/String" "coder" "B" (.int cd) U ∧ XT.Arr .byte t V U ∧ Cod cd n f V ∧ ∀ j, j < n → ¬ f j < 0 ∧ ¬ 65535 < f j
theorem Txt.mv {x t : Addr} {V : Cell} {cd : Int32} {n : Nat} {f : Nat → Int32} {U U' : State} (h : Txt x t V cd n f U) (hal : U.vm.Alike U'.vm) (hh : U'.heap = U.heap) : Txt x t V cd n f U' := ⟨h.1.mv hal hh, h.2.1.mv hal hh, h.2.2.1.mv hal hh, h.2.2.2.1.mv hal hh, h.2.2.2.2⟩
namespace Cdr
def yN : MethodName := ⟨"java/lang/String", "coder", "()B"⟩
abbrev yB : ByteArray := jdk_42_method_152_code
theorem d0 : decode yB 0 = .ok (.getstatic 38, 3) := by decide +kernel
theorem d3 : decode yB 3 = .ok (.ifCond (.eq) 10, 3) := by decide +kernel
theorem d6 : decode yB 6 = .ok (.aload_n 0, 1) := by decide +kernel
theorem d7 : decode yB 7 = .ok (.getfield 15, 3) := by decide +kernel
theorem d10 : decode yB 10 = .ok (.goto 4, 3) := by decide +kernel
theorem d14 : decode yB 14 = .ok (.ireturn, 1) := by decide +kernel
def site : List Cond := [.fieldLink "java/lang/String" 38 "java/lang/String" "COMPACT_STRINGS" "Z", .fieldLink "java/lang/String" 15 "java/lang/String" "coder" "B"]
def tab : Cond := tabOf yN yB 1 (some .byte) site
def P (x : Addr) (cd z : Int32) (args : Array Value) (s : State) : Prop := args = #[.ref x] ∧ Has x "java/lang/String" "coder" "B" (.int cd) s ∧ (cd = 0 ∨ cd = 1) ∧ StaticIs s "java/lang/String" "COMPACT_STRINGS" "Z" (.int z) ∧ ¬ z = 0
def E (cd : Int32) (r : Option Value) (s u : State) : Prop := XT.PureE (some (.int cd)) r s u
theorem law (l : Launch) (x : Addr) (cd z : Int32) : Law l yN 1 0 0 0 yB 1 (some .byte) site (P x cd z) (E cd) [] 0 0 := by
  refine Law.of_walk (plainFor_of_name (by decide +kernel)) (by decide +kernel) (by decide +kernel) (by decide) (fun _ _ h => by rw [h.1]; rfl) (fun _ U U' hal hh h => ⟨h.1, h.2.1.mv hal hh, h.2.2.1, h.2.2.2.1.there hal hh, h.2.2.2.2⟩) (fun r U U' V V' h1 hal h2 h => XT.PureE.mv r U U' V V' h1 hal h2 h) ?_
  intro p e s m args below meth c s₁ X0 hexec hbytes hml hret hlk hnm hown hh0 W hP
  obtain ⟨rfl, hx, hc, s1, hz⟩ := hP
  have c1 : Steps p.tables e below (s₁.setTop (entryFrame m #[.ref x] 1)) (s₁.setTop (mkF m 0 #[.val (.ref x)] [])) := entry rfl
  obtain ⟨T2, X2, q2, st2⟩ := X0.sget hexec hown (wk W (.fieldLink "java/lang/String" 38 "java/lang/String" "COMPACT_STRINGS" "Z")) s1 (fun _ _ h => by rw [hh0]; exact h) (g := (mkF m 0 #[.val (.ref x)] [])) rfl (hb hbytes d0)
  have hh2 := q2.trans hh0
  have c3 : Steps p.tables e below (s₁.setTop (entryFrame m #[.ref x] 1)) (T2.setTop (mkF m 7 #[.val (.ref x)] [.ref x])) := (c1.trans (st2 _ (Steps.refl _))).trans (by
    refine XS.ifNo X2.here hexec rfl (hb hbytes d3) rfl (i0_eq_f hz) ?_
    refine XS.aloadN X2.here hexec rfl (hb hbytes d6) rfl rfl ?_
    exact Steps.refl _)
  obtain ⟨T4, X4, q4, st4⟩ := X2.hget hexec hown (wk W (.fieldLink "java/lang/String" 15 "java/lang/String" "coder" "B")) (hx.mv X2.warmed.alike hh2) (g := (mkF m 7 #[.val (.ref x)] [.ref x])) rfl (rest := []) rfl (hb hbytes d7)
  have c5 : Steps p.tables e below (s₁.setTop (entryFrame m #[.ref x] 1)) (T4.setTop (mkF m 14 #[.val (.ref x)] [.int cd])) := (c3.trans (st4 _ (Steps.refl _))).trans (by
    refine XS.goto X4.here hexec rfl (pc0 := 10) rfl (hb hbytes d10) (by decide) rfl ?_
    exact Steps.refl _)
  exact ⟨T4, some (.int cd), _, _, _, X4, rfl, rfl, rfl, (fun h => by cases h), ⟨rfl, q4.trans hh2⟩, fun fs hl => c5.trans (X4.ireturnOut hexec hret (by rcases hc with rfl | rfl <;> rfl) (Or.inr (Or.inr (Or.inl rfl))) (hb hbytes d14) hl)⟩
end Cdr
namespace Len
def yN : MethodName := ⟨"java/lang/String", "length", "()I"⟩
abbrev yB : ByteArray := jdk_42_method_54_code
theorem d0 : decode yB 0 = .ok (.aload_n 0, 1) := by decide +kernel
theorem d1 : decode yB 1 = .ok (.getfield 9, 3) := by decide +kernel
theorem d4 : decode yB 4 = .ok (.arraylength, 1) := by decide +kernel
theorem d5 : decode yB 5 = .ok (.aload_n 0, 1) := by decide +kernel
theorem d6 : decode yB 6 = .ok (.invokevirtual 335, 3) := by decide +kernel
theorem d9 : decode yB 9 = .ok (.ishr, 1) := by decide +kernel
theorem d10 : decode yB 10 = .ok (.ireturn, 1) := by decide +kernel
def site : List Cond := [.fieldLink "java/lang/String" 9 "java/lang/String" "value" "[B", Cdr.tab] ++ virtW "java/lang/String" 335 "java/lang/String" Cdr.yN Cdr.yN
def tab : Cond := tabOf yN yB 1 (some .int) site
def P (x t : Addr) (V : Cell) (cd : Int32) (n : Nat) (f : Nat → Int32) (z : Int32) (args : Array Value) (s : State) : Prop := args = #[.ref x] ∧ Txt x t V cd n f s ∧ StaticIs s "java/lang/String" "COMPACT_STRINGS" "Z" (.int z) ∧ ¬ z = 0
def E (n : Nat) (r : Option Value) (s u : State) : Prop := XT.PureE (some (.int (Int32.ofNat n))) r s u
/-- length() of a String of n chars, in either coding -/
theorem law (l : Launch) (x t : Addr) (V : Cell) (cd : Int32) (n : Nat) (f : Nat → Int32) (z : Int32) : Law l yN 1 0 1 13 yB 1 (some .int) site (P x t V cd n f z) (E n) [] 0 0 := by
  refine Law.of_walk (plainFor_of_name (by decide +kernel)) (by decide +kernel) (by decide +kernel) (by decide) (fun _ _ h => by rw [h.1]; rfl) (fun _ U U' hal hh h => ⟨h.1, h.2.1.mv hal hh, h.2.2.1.there hal hh, h.2.2.2⟩) (fun r U U' V V' h1 hal h2 h => XT.PureE.mv r U U' V V' h1 hal h2 h) ?_
  intro p e s m args below meth c s₁ X0 hexec hbytes hml hret hlk hnm hown hh0 W hP
  obtain ⟨rfl, hx, s1, hz⟩ := hP
  have v31 := hx.2.2.2.1.2.2.2
  have c1 : Steps p.tables e below (s₁.setTop (entryFrame m #[.ref x] 1)) (s₁.setTop (mkF m 1 #[.val (.ref x)] [.ref x])) := Steps.trans (entry rfl) (by
    show Steps p.tables e below (s₁.setTop (mkF m 0 #[.val (.ref x)] [])) _
    refine XS.aloadN X0.here hexec rfl (hb hbytes d0) rfl rfl ?_
    exact Steps.refl _)
  obtain ⟨T2, X2, q2, st2⟩ := X0.hget hexec hown (wk W (.fieldLink "java/lang/String" 9 "java/lang/String" "value" "[B")) (hx.mv X0.warmed.alike hh0).2.1 (g := (mkF m 1 #[.val (.ref x)] [.ref x])) rfl (rest := []) rfl (hb hbytes d1)
  have hh2 := q2.trans hh0
  have hx2 := hx.mv X2.warmed.alike hh2
  have c3 : Steps p.tables e below (s₁.setTop (entryFrame m #[.ref x] 1)) (T2.setTop (mkF m 6 #[.val (.ref x)] [.ref x, .int (Int32.ofNat V.slots.size)])) := (c1.trans (st2 _ (Steps.refl _))).trans (by
    refine X2.alen hexec hx2.2.2.2.1 rfl rfl (hb hbytes d4) ?_
    refine XS.aloadN X2.here hexec rfl (hb hbytes d5) rfl rfl ?_
    exact Steps.refl _)
  obtain ⟨v4, T4, X4, E4, g4⟩ := X2.callV hexec (Cdr.law l x cd z) hown (wks W (virtW "java/lang/String" 335 "java/lang/String" Cdr.yN Cdr.yN)) rfl (by decide) (wk W Cdr.tab) (W := 1) (Nat.le_of_ble_eq_true rfl) (Nat.le_of_ble_eq_true rfl) (Nat.le_refl _) (Nat.le_refl _) (hx2.1.fc X2.warmed.alike) hx2.1.is (g := (mkF m 6 #[.val (.ref x)] [.ref x, .int (Int32.ofNat V.slots.size)])) rfl (by rw [hml]; rfl) c3 (argsL := []) (rest := [.int (Int32.ofNat V.slots.size)]) rfl rfl (by show 2 * 0 + (1 + 0) ≤ _; decide) (hb hbytes d6) (⟨rfl, hx2.2.2.1, hx.2.2.2.2.1.cd, s1.there X2.warmed.alike hh2, hz⟩)
  obtain ⟨rfl, q4⟩ := E4
  have c5 : Steps p.tables e below (s₁.setTop (entryFrame m #[.ref x] 1)) (T4.setTop (mkF m 10 #[.val (.ref x)] [.int (Int32.ofNat V.slots.size >>> (cd &&& 31))])) := Steps.trans g4 (by
    refine ishr X4.here hexec rfl (hb hbytes d9) rfl ?_
    exact Steps.refl _)
  rw [hx.2.2.2.2.1.len v31] at c5
  exact ⟨T4, some (.int (Int32.ofNat n)), _, _, _, X4, rfl, rfl, rfl, (fun h => by cases h), ⟨rfl, q4.trans hh2⟩, fun fs hl => c5.trans (X4.ireturnOut hexec hret rfl (Or.inl rfl) (hb hbytes d10) hl)⟩
theorem pays {l : Launch} {R : Room} {p : Program} {e : Env} {below : List Frame} {s : State} {sargs : Array Value} {len W : Nat} (x t : Addr) (V : Cell) (cd : Int32) (n : Nat) (f : Nat → Int32) (z : Int32) (htab : tab.before sargs s = true) (hfr : 2 ≤ R.frames) (hlo : W + 25 ≤ R.locals) :
    Back l R p e below s sargs yN len W (fun A₁ a₁ => A₁.cells + 0 ≤ R.cells ∧ A₁.slots + 0 ≤ R.slots ∧ P x t V cd n f z a₁ A₁.U) (fun A₁ _ v₁ B₁ => E n v₁ A₁.U B₁.U ∧ B₁.locs = A₁.locs ++ [] ∧ B₁.cells = A₁.cells + 0 ∧ B₁.slots = A₁.slots + 0) :=
  (law l x t V cd n f z).pays htab hfr (by omega)
end Len
end StrChars
namespace StrChars.Road
open Jvm Sem ClassFile Op Lib Jvm.Stand Jvm.Free Jvm.Free.XT
open Jvm.Lib.Cold (StaticIs)
theorem consq {a : Array Value} {s : State} {c : Jvm.Cond} {L : List Jvm.Cond} (h0 : c.before a s = true) (h : ∀ w ∈ L, w.before a s = true) : ∀ w ∈ c :: L, w.before a s = true := fun w hw => (List.mem_cons.mp hw).elim (fun e => e ▸ h0) (h w)
/-- the words of String.length(), either coding -/
abbrev wordsLen : List Jvm.Cond := [.code Len.yN Len.yB 1 (some .int), .initialized ST, .fieldLink ST 9 ST "value" "[B", .fieldLink ST 38 ST "COMPACT_STRINGS" "Z", .fieldLink ST 15 ST "coder" "B", .code Cdr.yN Cdr.yB 1 (some .byte), .methodLink ST 335 Cdr.yN, .declares Cdr.yN, .selects ST Cdr.yN Cdr.yN, .instanceMethod Cdr.yN]
theorem tabLen_of {a : Array Value} {s : State} (h : ∀ w ∈ wordsLen, w.before a s = true) : Len.tab.before a s = true := by
  have hc : Cdr.tab.before a s = true := unparts (wk h (.code Cdr.yN Cdr.yB 1 (some .byte))) (wks h (.initialized Cdr.yN.cls :: Cdr.site))
  have q := consq hc h
  exact unparts (wk q (.code Len.yN Len.yB 1 (some .int))) (wks q (.initialized Len.yN.cls :: Len.site))
theorem movedLen {Z s : State} {a0 args : Array Value} (hZ : Z.Warmed39 s.vm) (hw : ∀ d ∈ wordsLen, d.before a0 Z = true) : ∀ d ∈ wordsLen, d.before args s = true := fun d hd => by
  have q := hw d hd
  have t : ∀ d ∈ wordsLen, d = .arrayClass .byte ∨ (d.onTables && d.keepsFace) = true := by decide +kernel
  rcases t d hd with rfl | t
  · exact RoadKit.mvA hZ q
  · exact RoadKit.mv hZ q t
/-- the bytes of the chars cs, low before high -/
def wideBytes : List Int32 → List Value
  | [] => []
  | c :: cs => .int (lo8 c) :: .int (hi8 c) :: wideBytes cs
theorem wide_lo (d : Value) : ∀ (cs : List Int32) (j : Nat), j < cs.length → (wideBytes cs).getD (2 * j) d = .int (lo8 (cs.getD j 0))
  | [], j, h => absurd h (Nat.not_lt_zero j)
  | c :: cs, 0, _ => rfl
  | c :: cs, j + 1, h => by
    have q := wide_lo d cs j (by simpa using h)
    rw [show 2 * (j + 1) = 2 * j + 1 + 1 from by omega]
    simpa [wideBytes] using q
theorem wide_hi (d : Value) : ∀ (cs : List Int32) (j : Nat), j < cs.length → (wideBytes cs).getD (2 * j + 1) d = .int (hi8 (cs.getD j 0))
  | [], j, h => absurd h (Nat.not_lt_zero j)
  | c :: cs, 0, _ => rfl
  | c :: cs, j + 1, h => by
    have q := wide_hi d cs j (by simpa using h)
    rw [show 2 * (j + 1) + 1 = 2 * j + 1 + 1 + 1 from by omega]
    simpa [wideBytes] using q
theorem low_at (d : Value) (cs : List Int32) (j : Nat) (h : j < cs.length) : (cs.map fun c => Value.int (lo8 c)).getD j d = .int (lo8 (cs.getD j 0)) := by
  simp [List.getD_eq_getElem?_getD, h]
/-- an array of N2 bytes vs codes the chars cs by the coder cd -/
def CodA (cs : List Int32) (cd N2 : Int32) (vs : List Value) : Prop := (cd = 0 ∧ N2 = Int32.ofNat cs.length ∧ vs = (cs.map fun c => Value.int (lo8 c)) ∧ ∀ c ∈ cs, ¬ 255 < c) ∨ (cd = 1 ∧ N2 = Int32.ofNat (2 * cs.length) ∧ vs = wideBytes cs ∧ ∃ c ∈ cs, 255 < c)
theorem CodA.cod {cs : List Int32} {cd N2 : Int32} {vs : List Value} {V : Cell} (h : CodA cs cd N2 vs) (hn : 2 * cs.length < 2 ^ 31) (hs : V.slots.size = N2.toNatClampNeg) (hv : RoadKit.Has V vs (.int 0)) : Cod cd cs.length (fun j => cs.getD j 0) V := by
  rcases h with ⟨rfl, rfl, rfl, h⟩ | ⟨rfl, rfl, rfl, c, hc, hw⟩
  · rw [n32 (by omega)] at hs
    exact Or.inl ⟨rfl, hs, fun j hj => ⟨by rw [hv j (by omega), low_at _ _ _ hj], by
      have e : cs.getD j 0 = cs[j] := by simp [List.getD_eq_getElem?_getD, hj]
      show ¬ 255 < cs.getD j 0
      rw [e]; exact h _ (List.getElem_mem _)⟩⟩
  · rw [n32 (by omega)] at hs
    obtain ⟨j, hj, rfl⟩ := List.getElem_of_mem hc
    exact Or.inr ⟨rfl, hs, fun j hj => ⟨by rw [hv _ (by omega), wide_lo _ _ _ hj], by rw [hv _ (by omega), wide_hi _ _ _ hj]⟩, j, hj, by
      have e : cs.getD j 0 = cs[j] := by simp [List.getD_eq_getElem?_getD, hj]
      show 255 < cs.getD j 0
      rw [e]; exact hw⟩
/-- an object of exactly java/lang/String, its two fields found: as the laws ask it -/
theorem strObj {Z U : State} {a0 : Array Value} {kI : Nat} (wi : (Jvm.Cond.instantiable ST kI).before a0 Z = true) (al : Z.vm.Alike U.vm) {x : Addr} {v0 c0 : Value} (E : RoadKit.Exa Z U.heap x ST) (V : RoadKit.Fld Z U.heap x ST "value" "[B" v0) (C : RoadKit.Fld Z U.heap x ST "coder" "B" c0) :
    ∃ (D : Cell) (fV fC : Field), Blank ST x D U ∧ Found ST "value" "[B" fV U ∧ Found ST "coder" "B" fC U ∧ D.slots[fV.slot]? = some v0 ∧ D.slots[fC.slot]? = some c0 ∧ RoadKit.slotOf Z ST "value" "[B" = fV.slot ∧ RoadKit.slotOf Z ST "coder" "B" = fC.slot := by
  obtain ⟨D, cfV, kV, iV, fV, hD, gV, stV, knV, obV, asV, slV⟩ := V
  obtain ⟨D', cfC, kC, iC, fC, hD', gC, stC, -, -, asC, slC⟩ := C
  cases hD.symm.trans hD'
  obtain ⟨D2, kD, e1, e2, e3, e4, e5⟩ := E
  cases hD.symm.trans e1
  obtain ⟨c2, k2, i1, i2, i3, -⟩ := Cond.instantiable_spec wi
  cases e2.symm.trans i1
  cases e3.symm.trans i2
  obtain ⟨kU, u1, u2⟩ := al.2.2 _ _ e3
  exact ⟨D, fV, fC, ⟨hD, ⟨knV, fun q hq => by rw [hq] at obV; cases obV⟩, by rw [al.findClass]; exact e2, kU, u1, by rw [u2]; exact i3, by rw [u2]; exact e5 i3⟩, ⟨SBG.found_only al ⟨cfV, kV, iV, gV⟩, stV⟩, ⟨SBG.found_only al ⟨cfC, kC, iC, gC⟩, stC⟩, slV, slC, by simp [RoadKit.slotOf, gV], by simp [RoadKit.slotOf, gC]⟩
theorem sta_is {Z U : State} (al : Z.vm.Alike U.vm) {C n d : String} {v : Value} (S : RoadKit.Sta Z U.heap C n d v) : StaticIs U C n d v := by
  obtain ⟨cfS, iS, kS, fS, st, cS, t1, t2, t3, t4, t5, t6, t7⟩ := S
  exact StaticIs.there (s := { Z with heap := U.heap }) ⟨cfS, iS, kS, fS, st, cS, t1, t2, t3, t4, t5, (fun q => by rw [q] at t6; cases t6), t7⟩ al rfl
/-- **length() OF SUCH A STRING** -/
theorem lenW {p : Program} {l : Launch} {e : Env} {R : Room} {s : State} {args : Array Value} {below : List Frame} {len W : Nat} {Z : State} {a0 : Array Value} {h : Heap} (hZ : Z.Warmed39 s.vm) (hw : ∀ d ∈ wordsLen, d.before a0 Z = true) {kI : Nat} (wi : (Jvm.Cond.instantiable ST kI).before a0 Z = true)
    {x t : Addr} {kb : ClassId} {cs : List Int32} {cd N2 z : Int32} {vs : List Value} (E : RoadKit.Exa Z h x ST) (V : RoadKit.Fld Z h x ST "value" "[B" (.ref t)) (C : RoadKit.Fld Z h x ST "coder" "B" (.int cd)) (K : RoadKit.Arv Z h t kb .byte N2 vs (.int 0)) (hc : CodA cs cd N2 vs) (hb : ∀ c ∈ cs, ¬ c < 0 ∧ ¬ (65535 : Int32) < c)
    (S : RoadKit.Sta Z h ST "COMPACT_STRINGS" "Z" (.int z)) (hz : ¬ z = 0) (l2 : cs.length ≤ 4000) (hfr : 2 ≤ R.frames) (hlo : W + 25 ≤ R.locals) :
    Back l R p e below s args (⟨"java/lang/String", "length", "()I"⟩ : MethodName) len W (fun P a => a = #[.ref x] ∧ P.U.heap = h ∧ P.cells + 0 ≤ R.cells ∧ P.slots + 0 ≤ R.slots)
      (fun P _ v B => ∃ L, (v = some (.int (Int32.ofNat cs.length)) ∧ L = [] ∧ B.U.heap = h) ∧ B.locs = P.locs ++ L ∧ B.cells = P.cells + 0 ∧ B.slots = P.slots + 0) := by
  obtain ⟨A, K1, K2, K3, K4, K5, K6⟩ := K
  have hcod := hc.cod (by omega) K3 K5
  intro m meth c P g ig mk a X hg hsize hdg hW hn hp'
  obtain ⟨rfl, rfl, r1, r2⟩ := hp'
  have al : Z.vm.Alike P.U.vm := hZ.alike.trans X.warmed.alike
  obtain ⟨D, fV, fC, hB, F1, F2, g1, g2, -, -⟩ := strObj wi al E V C
  have hx : Txt x t A cd cs.length (fun j => cs.getD j 0) P.U := ⟨⟨_, hB.2.2.1, D, hB.1, rfl, by cases q : D.vm <;> first | rfl | exact absurd q (hB.2.1.2 _)⟩, Has.of hB F1 g1, Has.of hB F2 g2, ⟨K1.1, State.isArrayOf_alike al K1.2.1, K1.2.2, by rcases hcod with ⟨-, q, -⟩ | ⟨-, q, -⟩ <;> omega⟩, hcod, fun j hj => by
    have e : cs.getD j 0 = cs[j] := by simp [List.getD_eq_getElem?_getD, hj]
    show ¬ cs.getD j 0 < 0 ∧ ¬ 65535 < cs.getD j 0
    rw [e]; exact hb _ (List.getElem_mem _)⟩
  obtain ⟨v, B, X', ⟨⟨hv, hh⟩, hl, hk, hs⟩, st⟩ := Len.pays x t A cd cs.length (fun j => cs.getD j 0) z (tabLen_of (movedLen hZ hw)) hfr hlo m meth c P g ig mk _ X hg hsize hdg hW hn ⟨r1, r2, rfl, hx, sta_is al S, hz⟩
  exact ⟨v, B, X', ⟨[], ⟨hv, rfl, hh⟩, hl, hk, hs⟩, st⟩
end StrChars.Road
namespace StrChars
open Jvm Sem ClassFile Op Lib Jvm.Stand Jvm.Free.XT Jvm.Free.ALB Jvm.Free.JM Jvm.Free
open Jvm.Lib.Cold (StaticIs)
/-- what place i of a byte[]'s cell holds -/
def yv (A : Cell) (i : Nat) : Int32 := match A.slots[i]? with | some (.int x) => x | _ => 0
theorem yv_get {a : Addr} {A : Cell} {U : State} (h : XT.Arr .byte a A U) (ht : Typed .byte A) {i : Nat} (hi : i < A.slots.size) : A.slots[i]? = some (.int (yv A i)) := by
  have e := Array.getElem?_eq_getElem hi
  have f := ht i _ e
  unfold yv; rw [e]
  generalize A.slots[i] = v at f
  cases v <;> simp [fits] at f ⊢
/-- the two arrays are equal, place for place -/
def EqC (A B : Cell) : Prop := A.slots.size = B.slots.size ∧ ∀ i, i < A.slots.size → yv A i = yv B i
/-- a boolean that says whether p -/
def Says01 (q : Prop) (r : Option Value) (s u : State) : Prop := ∃ v : Int32, r = some (.int v) ∧ u.heap = s.heap ∧ ((v = 1 ∧ q) ∨ (v = 0 ∧ ¬ q))
theorem Says01.mv {q : Prop} : ∀ r (U U' V V' : State), U'.heap = U.heap → V.vm.Alike V'.vm → V'.heap = V.heap → Says01 q r U V → Says01 q r U' V' :=
  fun r U U' V V' h1 _ h2 ⟨v, a, b, c⟩ => ⟨v, a, by rw [h1, h2]; exact b, c⟩
namespace LEq
def yN : MethodName := ⟨"java/lang/StringLatin1", "equals", "([B[B)Z"⟩
abbrev yB : ByteArray := jdk_43_method_13_code
theorem d0 : decode yB 0 = .ok (.aload_n 0, 1) := by decide +kernel
theorem d1 : decode yB 1 = .ok (.arraylength, 1) := by decide +kernel
theorem d2 : decode yB 2 = .ok (.aload_n 1, 1) := by decide +kernel
theorem d3 : decode yB 3 = .ok (.arraylength, 1) := by decide +kernel
theorem d4 : decode yB 4 = .ok (.if_icmp (.ne) 30, 3) := by decide +kernel
theorem d7 : decode yB 7 = .ok (.iconst 0, 1) := by decide +kernel
theorem d8 : decode yB 8 = .ok (.istore_n 2, 1) := by decide +kernel
theorem d9 : decode yB 9 = .ok (.iload_n 2, 1) := by decide +kernel
theorem d10 : decode yB 10 = .ok (.aload_n 0, 1) := by decide +kernel
theorem d11 : decode yB 11 = .ok (.arraylength, 1) := by decide +kernel
theorem d12 : decode yB 12 = .ok (.if_icmp (.ge) 20, 3) := by decide +kernel
theorem d15 : decode yB 15 = .ok (.aload_n 0, 1) := by decide +kernel
theorem d16 : decode yB 16 = .ok (.iload_n 2, 1) := by decide +kernel
theorem d17 : decode yB 17 = .ok (.baload, 1) := by decide +kernel
theorem d18 : decode yB 18 = .ok (.aload_n 1, 1) := by decide +kernel
theorem d19 : decode yB 19 = .ok (.iload_n 2, 1) := by decide +kernel
theorem d20 : decode yB 20 = .ok (.baload, 1) := by decide +kernel
theorem d21 : decode yB 21 = .ok (.if_icmp (.eq) 5, 3) := by decide +kernel
theorem d24 : decode yB 24 = .ok (.iconst 0, 1) := by decide +kernel
theorem d25 : decode yB 25 = .ok (.ireturn, 1) := by decide +kernel
theorem d26 : decode yB 26 = .ok (.iinc 2 1, 3) := by decide +kernel
theorem d29 : decode yB 29 = .ok (.goto (-20), 3) := by decide +kernel
theorem d32 : decode yB 32 = .ok (.iconst 1, 1) := by decide +kernel
theorem d33 : decode yB 33 = .ok (.ireturn, 1) := by decide +kernel
theorem d34 : decode yB 34 = .ok (.iconst 0, 1) := by decide +kernel
theorem d35 : decode yB 35 = .ok (.ireturn, 1) := by decide +kernel
def site : List Cond := []
def tab : Cond := tabOf yN yB 3 (some .boolean) site
def P (a : Addr) (A : Cell) (b : Addr) (B : Cell) (args : Array Value) (s : State) : Prop := args = #[.ref a, .ref b] ∧ XT.Arr .byte a A s ∧ Typed .byte A ∧ XT.Arr .byte b B s ∧ Typed .byte B
/-- whether two byte[] are equal, place for place -/
theorem law (l : Launch) (a : Addr) (A : Cell) (b : Addr) (B : Cell) : Law l yN 2 2 0 0 yB 3 (some .boolean) site (P a A b B) (Says01 (EqC A B)) [] 0 0 := by
  refine Law.of_walk (plainFor_of_name (by decide +kernel)) (by decide +kernel) (by decide +kernel) (by decide) (fun _ _ h => by rw [h.1]; rfl) (fun _ U U' hal hh h => ⟨h.1, h.2.1.mv hal hh, h.2.2.1, h.2.2.2.1.mv hal hh, h.2.2.2.2⟩) (fun r U U' V V' h1 hal h2 h => Says01.mv r U U' V V' h1 hal h2 h) ?_
  intro p e s m args below meth c s₁ X0 hexec hbytes hml hret hlk hnm hown hh0 W hP
  obtain ⟨rfl, hA, tA, hB, tB⟩ := hP
  have a31 := hA.2.2.2
  have b31 := hB.2.2.2
  have hA0 := hA.mv X0.warmed.alike hh0
  have hB0 := hB.mv X0.warmed.alike hh0
  have c1 : Steps p.tables e below (s₁.setTop (entryFrame m #[.ref a, .ref b] 3)) (s₁.setTop (mkF m 0 #[.val (.ref a), .val (.ref b), .unset] [])) := entry rfl
  have c2 : Steps p.tables e below (s₁.setTop (entryFrame m #[.ref a, .ref b] 3)) (s₁.setTop (mkF m 4 #[.val (.ref a), .val (.ref b), .unset] [.int (Int32.ofNat B.slots.size), .int (Int32.ofNat A.slots.size)])) := c1.trans (by
    refine XS.aloadN X0.here hexec rfl (hb hbytes d0) rfl rfl ?_
    refine X0.alen hexec hA0 rfl rfl (hb hbytes d1) ?_
    refine XS.aloadN X0.here hexec rfl (hb hbytes d2) rfl rfl ?_
    refine X0.alen hexec hB0 rfl rfl (hb hbytes d3) ?_
    exact Steps.refl _)
  by_cases hs : A.slots.size = B.slots.size
  · have c3 : Steps p.tables e below (s₁.setTop (entryFrame m #[.ref a, .ref b] 3)) (s₁.setTop (mkF m 9 #[.val (.ref a), .val (.ref b), .val (.int 0)] [])) := c2.trans (by
      refine XS.icmpNo X0.here hexec rfl (hb hbytes d4) rfl (ii_ne_f (by rw [hs])) ?_
      refine iconstV X0.here hexec rfl 0 (hb hbytes d7) (by decide) ?_
      refine XS.istoreN X0.here hexec rfl (hb hbytes d8) rfl rfl ?_
      exact Steps.refl _)
    have loop : ∀ (r i : Nat), i + r = A.slots.size → (∀ j, j < i → yv A j = yv B j) → Steps p.tables e below (s₁.setTop (entryFrame m #[.ref a, .ref b] 3)) (s₁.setTop (mkF m 9 #[.val (.ref a), .val (.ref b), .val (.int (Int32.ofNat i))] [])) → ∃ (pc : Nat) (Ls : Array Slot) (v : Int32), (pc = 25 ∨ pc = 33) ∧ ((v = 1 ∧ EqC A B) ∨ (v = 0 ∧ ¬ EqC A B)) ∧ Steps p.tables e below (s₁.setTop (entryFrame m #[.ref a, .ref b] 3)) (s₁.setTop (mkF m pc Ls [.int v])) := by
      intro r
      induction r with
      | zero =>
        intro i hi he cl
        exact ⟨33, _, 1, Or.inr rfl, Or.inl ⟨rfl, hs, fun j hj => he j (by omega)⟩, cl.trans (by
          refine XS.iloadN X0.here hexec rfl (hb hbytes d9) rfl ?_
          refine XS.aloadN X0.here hexec rfl (hb hbytes d10) rfl rfl ?_
          refine X0.alen hexec hA0 rfl rfl (hb hbytes d11) ?_
          refine XS.icmpYes X0.here hexec rfl (pc0 := 12) rfl (hb hbytes d12) rfl (ii_ge_t (nlt32 (by omega) (by omega))) (by decide) rfl ?_
          refine iconstV X0.here hexec rfl 1 (hb hbytes d32) (by decide) ?_
          exact Steps.refl _)⟩
      | succ r ih =>
        intro i hi he cl
        have c4 : Steps p.tables e below (s₁.setTop (entryFrame m #[.ref a, .ref b] 3)) (s₁.setTop (mkF m 21 #[.val (.ref a), .val (.ref b), .val (.int (Int32.ofNat i))] [.int (yv B i), .int (yv A i)])) := cl.trans (by
          refine XS.iloadN X0.here hexec rfl (hb hbytes d9) rfl ?_
          refine XS.aloadN X0.here hexec rfl (hb hbytes d10) rfl rfl ?_
          refine X0.alen hexec hA0 rfl rfl (hb hbytes d11) ?_
          refine XS.icmpNo X0.here hexec rfl (hb hbytes d12) rfl (ii_ge_f (lt32 (by omega) (by omega))) ?_
          refine XS.aloadN X0.here hexec rfl (hb hbytes d15) rfl rfl ?_
          refine XS.iloadN X0.here hexec rfl (hb hbytes d16) rfl ?_
          refine X0.aget hexec hA0 rfl (yv_get hA tA (i := i) (by omega)) rfl rfl (hb hbytes d17) ?_
          refine XS.aloadN X0.here hexec rfl (hb hbytes d18) rfl rfl ?_
          refine XS.iloadN X0.here hexec rfl (hb hbytes d19) rfl ?_
          refine X0.aget hexec hB0 rfl (yv_get hB tB (i := i) (by omega)) rfl rfl (hb hbytes d20) ?_
          exact Steps.refl _)
        by_cases hv : yv A i = yv B i
        · have c5 : Steps p.tables e below (s₁.setTop (entryFrame m #[.ref a, .ref b] 3)) (s₁.setTop (mkF m 9 #[.val (.ref a), .val (.ref b), .val (.int (Int32.ofNat i + 1))] [])) := c4.trans (by
            refine XS.icmpYes X0.here hexec rfl (pc0 := 21) rfl (hb hbytes d21) rfl (ii_eq_t hv) (by decide) rfl ?_
            refine iincV X0.here hexec rfl 1 (hb hbytes d26) (by decide) rfl rfl ?_
            refine XS.goto X0.here hexec rfl (pc0 := 29) rfl (hb hbytes d29) (by decide) rfl ?_
            exact Steps.refl _)
          rw [succ32] at c5
          exact ih (i + 1) (by omega) (fun j hj => by
            by_cases e : j = i
            · rw [e]; exact hv
            · exact he j (by omega)) c5
        · exact ⟨25, _, 0, Or.inl rfl, Or.inr ⟨rfl, fun q => hv (q.2 i (by omega))⟩, c4.trans (by
            refine XS.icmpNo X0.here hexec rfl (hb hbytes d21) rfl (ii_eq_f hv) ?_
            refine iconstV X0.here hexec rfl 0 (hb hbytes d24) (by decide) ?_
            exact Steps.refl _)⟩
    obtain ⟨pc, Ls, v, hpc, hv, cz⟩ := loop A.slots.size 0 (by omega) (fun j hj => absurd hj (Nat.not_lt_zero j)) c3
    have nv : narrow .boolean (.int v) = .int v := by rcases hv with ⟨rfl, -⟩ | ⟨rfl, -⟩ <;> rfl
    rcases hpc with rfl | rfl
    · exact ⟨s₁, some (.int v), _, _, _, X0, rfl, rfl, rfl, (fun h => by cases h), ⟨v, rfl, hh0, hv⟩, fun fs hl => cz.trans (X0.ireturnOut hexec hret nv (Or.inr (Or.inl rfl)) (hb hbytes d25) hl)⟩
    · exact ⟨s₁, some (.int v), _, _, _, X0, rfl, rfl, rfl, (fun h => by cases h), ⟨v, rfl, hh0, hv⟩, fun fs hl => cz.trans (X0.ireturnOut hexec hret nv (Or.inr (Or.inl rfl)) (hb hbytes d33) hl)⟩
  · have c3 : Steps p.tables e below (s₁.setTop (entryFrame m #[.ref a, .ref b] 3)) (s₁.setTop (mkF m 35 #[.val (.ref a), .val (.ref b), .unset] [.int 0])) := c2.trans (by
      refine XS.icmpYes X0.here hexec rfl (pc0 := 4) rfl (hb hbytes d4) rfl (ii_ne_t (ne32 a31 b31 hs)) (by decide) rfl ?_
      refine iconstV X0.here hexec rfl 0 (hb hbytes d34) (by decide) ?_
      exact Steps.refl _)
    exact ⟨s₁, some (.int 0), _, _, _, X0, rfl, rfl, rfl, (fun h => by cases h), ⟨0, rfl, hh0, Or.inr ⟨rfl, fun q => hs q.1⟩⟩, fun fs hl => c3.trans (X0.ireturnOut hexec hret rfl (Or.inr (Or.inl rfl)) (hb hbytes d35) hl)⟩
end LEq
theorem Cod.ty {cd : Int32} {n : Nat} {f : Nat → Int32} {V : Cell} (h : Cod cd n f V) : Typed .byte V := fun i v hv => by
  have hi : i < V.slots.size := (Array.getElem?_eq_some_iff.mp hv).1
  rcases h with ⟨-, k1, k2⟩ | ⟨-, k1, k2, -⟩
  · rw [(k2 i (by omega)).1] at hv; cases hv; exact fits_lo8 _
  · rcases Nat.mod_two_eq_zero_or_one i with e | e
    · obtain ⟨j, rfl⟩ : ∃ j, i = 2 * j := ⟨i / 2, by omega⟩
      rw [(k2 j (by omega)).1] at hv; cases hv; exact fits_lo8 _
    · obtain ⟨j, rfl⟩ : ∃ j, i = 2 * j + 1 := ⟨i / 2, by omega⟩
      rw [(k2 j (by omega)).2] at hv; cases hv; exact fits_lo8 _
/-- the same text -/
def SameT (n : Nat) (f : Nat → Int32) (k : Nat) (g : Nat → Int32) : Prop := n = k ∧ ∀ j, j < n → f j = g j
theorem lo8_inj {x y : Int32} (h0 : ¬ x < 0) (h1 : ¬ 255 < x) (k0 : ¬ y < 0) (k1 : ¬ 255 < y) (h : lo8 x = lo8 y) : x = y := by
  rw [← lo8_mask h0 h1, ← lo8_mask k0 k1, h]
/-- arrays coded by one coder are equal just where the texts are -/
theorem Cod.eqv {cd : Int32} {n k : Nat} {f g : Nat → Int32} {V V' : Cell} (h : Cod cd n f V) (h' : Cod cd k g V') (hf : ∀ j, j < n → ¬ f j < 0 ∧ ¬ 65535 < f j) (hg : ∀ j, j < k → ¬ g j < 0 ∧ ¬ 65535 < g j) : EqC V V' ↔ SameT n f k g := by
  have yvv : ∀ {W : Cell} {i : Nat} {x : Int32}, W.slots[i]? = some (.int x) → yv W i = x := fun q => by unfold yv; rw [q]
  rcases h with ⟨rfl, k1, k2⟩ | ⟨rfl, k1, k2, -⟩
  · rcases h' with ⟨-, m1, m2⟩ | ⟨e, -⟩
    · constructor
      · rintro ⟨e1, e2⟩
        refine ⟨by omega, fun j hj => ?_⟩
        have q := e2 j (by omega)
        rw [yvv (k2 j hj).1, yvv (m2 j (by omega)).1] at q
        exact lo8_inj (hf j hj).1 (k2 j hj).2 (hg j (by omega)).1 (m2 j (by omega)).2 q
      · rintro ⟨rfl, e2⟩
        refine ⟨by omega, fun j hj => ?_⟩
        rw [yvv (k2 j (by omega)).1, yvv (m2 j (by omega)).1, e2 j (by omega)]
    · exact absurd e (by decide)
  · rcases h' with ⟨e, -⟩ | ⟨-, m1, m2, -⟩
    · exact absurd e (by decide)
    · constructor
      · rintro ⟨e1, e2⟩
        refine ⟨by omega, fun j hj => ?_⟩
        have q1 := e2 (2 * j) (by omega)
        have q2 := e2 (2 * j + 1) (by omega)
        rw [yvv (k2 j hj).1, yvv (m2 j (by omega)).1] at q1
        rw [yvv (k2 j hj).2, yvv (m2 j (by omega)).2] at q2
        rw [← pair_says (hf j hj).1 (hf j hj).2, ← pair_says (hg j (by omega)).1 (hg j (by omega)).2, q1, q2]
      · rintro ⟨rfl, e2⟩
        refine ⟨by omega, fun i hi => ?_⟩
        rcases Nat.mod_two_eq_zero_or_one i with e | e
        · obtain ⟨j, rfl⟩ : ∃ j, i = 2 * j := ⟨i / 2, by omega⟩
          rw [yvv (k2 j (by omega)).1, yvv (m2 j (by omega)).1, e2 j (by omega)]
        · obtain ⟨j, rfl⟩ : ∃ j, i = 2 * j + 1 := ⟨i / 2, by omega⟩
          rw [yvv (k2 j (by omega)).2, yvv (m2 j (by omega)).2, e2 j (by omega)]
/-- two codings differ: so do the texts -/
theorem Cod.dif {cd cd' : Int32} {n k : Nat} {f g : Nat → Int32} {V V' : Cell} (h : Cod cd n f V) (h' : Cod cd' k g V') (hne : ¬ cd = cd') : ¬ SameT n f k g := by
  rintro ⟨rfl, e⟩
  rcases h with ⟨rfl, -, k2⟩ | ⟨rfl, -, -, j, hj, hw⟩
  · rcases h' with ⟨rfl, -⟩ | ⟨-, -, -, j, hj, hw⟩
    · exact hne rfl
    · exact (k2 j hj).2 (by rw [e j hj]; exact hw)
  · rcases h' with ⟨-, -, m2⟩ | ⟨rfl, -⟩
    · exact (m2 j hj).2 (by rw [← e j hj]; exact hw)
    · exact hne rfl
/-- an object of exactly C is an instance of C -/
theorem cinst {p : Program} {l : Launch} {e : Env} {R : Room} {s : State} {m : MethodId} {args : Array Value} {below : List Frame} {meth : Method} {c : Code} {T : State} {locs : List Loc} {cells slots : Nat} (X : Stand p l e R s m args below meth c T locs cells slots) (hexec : p.tables.exec = Jvm.exec) {own C : String} {index : Nat} (hown : s.vm.findClass own = some m.cls) (hlink : (Cond.classLink own index C).before args s = true) {a : Addr} (hE : Exact C a T)
    {g : JFrame} (hg : g.method = m) {rest : List Value} (hstack : g.stack = .ref a :: rest) (hdg : decode c.code g.pc = .ok (.instanceof index, 3)) :
    ∃ T', Stand p l e R s m args below meth c T' locs cells slots ∧ T'.heap = T.heap ∧ ∀ target, Steps p.tables e below (T'.setTop { g with pc := g.pc + 3, stack := .int 1 :: rest }) target → Steps p.tables e below (T.setTop g) target := by
  obtain ⟨cB, h1, D, h2, h3, h4⟩ := hE
  have h1' : s.vm.findClass C = some cB := by rw [← X.warmed.alike.findClass]; exact h1
  obtain ⟨vm', X', st⟩ := X.instanceofYes hexec hown hlink h2 h4 h1' (by rw [h3]; exact Jvm.Free.SB.assignable_self _ _) hg hstack hdg
  exact ⟨_, X', rfl, st⟩
theorem cself {p : Program} {l : Launch} {e : Env} {R : Room} {s : State} {m : MethodId} {args : Array Value} {below : List Frame} {meth : Method} {c : Code} {T : State} {locs : List Loc} {cells slots : Nat} (X : Stand p l e R s m args below meth c T locs cells slots) (hexec : p.tables.exec = Jvm.exec) {own C : String} {index : Nat} (hown : s.vm.findClass own = some m.cls) (hlink : (Cond.classLink own index C).before args s = true) {a : Addr} (hE : Exact C a T)
    {g : JFrame} (hg : g.method = m) {rest : List Value} (hstack : g.stack = .ref a :: rest) (hdg : decode c.code g.pc = .ok (.checkcast index, 3)) :
    ∃ T', Stand p l e R s m args below meth c T' locs cells slots ∧ T'.heap = T.heap ∧ ∀ target, Steps p.tables e below (T'.setTop { g with pc := g.pc + 3, stack := .ref a :: rest }) target → Steps p.tables e below (T.setTop g) target := by
  obtain ⟨cB, h1, D, h2, h3, h4⟩ := hE
  have h1' : s.vm.findClass C = some cB := by rw [← X.warmed.alike.findClass]; exact h1
  obtain ⟨vm', X', st⟩ := X.checkcastYes hexec hown hlink h2 h4 h1' (by rw [h3]; exact Jvm.Free.SB.assignable_self _ _) hg hstack hdg
  exact ⟨_, X', rfl, fun t h => st t (by rw [← hstack] at h; exact h)⟩
namespace SEq
def yN : MethodName := ⟨"java/lang/String", "equals", "(Ljava/lang/Object;)Z"⟩
abbrev yB : ByteArray := jdk_42_method_66_code
theorem d0 : decode yB 0 = .ok (.aload_n 0, 1) := by decide +kernel
theorem d1 : decode yB 1 = .ok (.aload_n 1, 1) := by decide +kernel
theorem d2 : decode yB 2 = .ok (.if_acmp (.ne) 5, 3) := by decide +kernel
theorem d5 : decode yB 5 = .ok (.iconst 1, 1) := by decide +kernel
theorem d6 : decode yB 6 = .ok (.ireturn, 1) := by decide +kernel
theorem d7 : decode yB 7 = .ok (.aload_n 1, 1) := by decide +kernel
theorem d8 : decode yB 8 = .ok (.instanceof 10, 3) := by decide +kernel
theorem d11 : decode yB 11 = .ok (.ifCond (.eq) 43, 3) := by decide +kernel
theorem d14 : decode yB 14 = .ok (.aload_n 1, 1) := by decide +kernel
theorem d15 : decode yB 15 = .ok (.checkcast 10, 3) := by decide +kernel
theorem d18 : decode yB 18 = .ok (.astore_n 2, 1) := by decide +kernel
theorem d19 : decode yB 19 = .ok (.getstatic 38, 3) := by decide +kernel
theorem d22 : decode yB 22 = .ok (.ifCond (.eq) 14, 3) := by decide +kernel
theorem d25 : decode yB 25 = .ok (.aload_n 0, 1) := by decide +kernel
theorem d26 : decode yB 26 = .ok (.getfield 15, 3) := by decide +kernel
theorem d29 : decode yB 29 = .ok (.aload_n 2, 1) := by decide +kernel
theorem d30 : decode yB 30 = .ok (.getfield 15, 3) := by decide +kernel
theorem d33 : decode yB 33 = .ok (.if_icmp (.ne) 21, 3) := by decide +kernel
theorem d36 : decode yB 36 = .ok (.aload_n 0, 1) := by decide +kernel
theorem d37 : decode yB 37 = .ok (.getfield 9, 3) := by decide +kernel
theorem d40 : decode yB 40 = .ok (.aload_n 2, 1) := by decide +kernel
theorem d41 : decode yB 41 = .ok (.getfield 9, 3) := by decide +kernel
theorem d44 : decode yB 44 = .ok (.invokestatic 541, 3) := by decide +kernel
theorem d47 : decode yB 47 = .ok (.ifCond (.eq) 7, 3) := by decide +kernel
theorem d50 : decode yB 50 = .ok (.iconst 1, 1) := by decide +kernel
theorem d51 : decode yB 51 = .ok (.goto 4, 3) := by decide +kernel
theorem d54 : decode yB 54 = .ok (.iconst 0, 1) := by decide +kernel
theorem d55 : decode yB 55 = .ok (.ireturn, 1) := by decide +kernel
def site : List Cond := [.classLink "java/lang/String" 10 "java/lang/String", .fieldLink "java/lang/String" 38 "java/lang/String" "COMPACT_STRINGS" "Z", .fieldLink "java/lang/String" 15 "java/lang/String" "coder" "B", .fieldLink "java/lang/String" 9 "java/lang/String" "value" "[B", LEq.tab] ++ staticW "java/lang/String" 541 LEq.yN
def tab : Cond := tabOf yN yB 3 (some .boolean) site
def P (x t : Addr) (V : Cell) (cd : Int32) (n : Nat) (f : Nat → Int32) (y t' : Addr) (V' : Cell) (cd' : Int32) (k : Nat) (g : Nat → Int32) (z : Int32) (args : Array Value) (s : State) : Prop := args = #[.ref x, .ref y] ∧ Txt x t V cd n f s ∧ Txt y t' V' cd' k g s ∧ StaticIs s "java/lang/String" "COMPACT_STRINGS" "Z" (.int z) ∧ ¬ z = 0
/-- equals(Object) of two Strings: whether the texts are the same -/
theorem law (l : Launch) (x t : Addr) (V : Cell) (cd : Int32) (n : Nat) (f : Nat → Int32) (y t' : Addr) (V' : Cell) (cd' : Int32) (k : Nat) (g : Nat → Int32) (z : Int32) : Law l yN 2 1 1 14 yB 3 (some .boolean) site (P x t V cd n f y t' V' cd' k g z) (Says01 (SameT n f k g)) [] 0 0 := by
  refine Law.of_walk (plainFor_of_name (by decide +kernel)) (by decide +kernel) (by decide +kernel) (by decide) (fun _ _ h => by rw [h.1]; rfl) (fun _ U U' hal hh h => ⟨h.1, h.2.1.mv hal hh, h.2.2.1.mv hal hh, h.2.2.2.1.there hal hh, h.2.2.2.2⟩) (fun r U U' V V' h1 hal h2 h => Says01.mv r U U' V V' h1 hal h2 h) ?_
  intro p e s m args below meth c s₁ X0 hexec hbytes hml hret hlk hnm hown hh0 W hP
  obtain ⟨rfl, hx, hy, s1, hz⟩ := hP
  have c1 : Steps p.tables e below (s₁.setTop (entryFrame m #[.ref x, .ref y] 3)) (s₁.setTop (mkF m 2 #[.val (.ref x), .val (.ref y), .unset] [.ref y, .ref x])) := Steps.trans (entry rfl) (by
    show Steps p.tables e below (s₁.setTop (mkF m 0 #[.val (.ref x), .val (.ref y), .unset] [])) _
    refine XS.aloadN X0.here hexec rfl (hb hbytes d0) rfl rfl ?_
    refine XS.aloadN X0.here hexec rfl (hb hbytes d1) rfl rfl ?_
    exact Steps.refl _)
  by_cases hxy : x = y
  · have c2 : Steps p.tables e below (s₁.setTop (entryFrame m #[.ref x, .ref y] 3)) (s₁.setTop (mkF m 6 #[.val (.ref x), .val (.ref y), .unset] [.int 1])) := c1.trans (by
      refine acmpNo X0.here hexec rfl (hb hbytes d2) rfl rfl rfl (by simp [acmp, hxy]) ?_
      refine iconstV X0.here hexec rfl 1 (hb hbytes d5) (by decide) ?_
      exact Steps.refl _)
    subst hxy
    have ec : cd = cd' := by
      obtain ⟨D, fd, a1, a2, a3⟩ := hx.2.2.1
      obtain ⟨D', fd', b1, b2, b3⟩ := hy.2.2.1
      cases a1.symm.trans b1
      obtain ⟨q1, q2, q3, q4⟩ := a2.1
      obtain ⟨r1, r2, r3, r4⟩ := b2.1
      cases q4.symm.trans r4
      cases a3.symm.trans b3; rfl
    have et : t = t' := by
      obtain ⟨D, fd, a1, a2, a3⟩ := hx.2.1
      obtain ⟨D', fd', b1, b2, b3⟩ := hy.2.1
      cases a1.symm.trans b1
      obtain ⟨q1, q2, q3, q4⟩ := a2.1
      obtain ⟨r1, r2, r3, r4⟩ := b2.1
      cases q4.symm.trans r4
      cases a3.symm.trans b3; rfl
    subst ec et
    have ev : V = V' := by cases hx.2.2.2.1.1.symm.trans hy.2.2.2.1.1; rfl
    subst ev
    have hs : SameT n f k g := (Cod.eqv hx.2.2.2.2.1 hy.2.2.2.2.1 hx.2.2.2.2.2 hy.2.2.2.2.2).mp ⟨rfl, fun _ _ => rfl⟩
    exact ⟨s₁, some (.int 1), _, _, _, X0, rfl, rfl, rfl, (fun h => by cases h), ⟨1, rfl, hh0, Or.inl ⟨rfl, hs⟩⟩, fun fs hl => c2.trans (X0.ireturnOut hexec hret rfl (Or.inr (Or.inl rfl)) (hb hbytes d6) hl)⟩
  · have c2 : Steps p.tables e below (s₁.setTop (entryFrame m #[.ref x, .ref y] 3)) (s₁.setTop (mkF m 8 #[.val (.ref x), .val (.ref y), .unset] [.ref y])) := c1.trans (by
      refine acmpYes X0.here hexec rfl (pc0 := 2) rfl (hb hbytes d2) rfl rfl rfl (by simp [acmp, hxy]) (by decide) rfl ?_
      refine XS.aloadN X0.here hexec rfl (hb hbytes d7) rfl rfl ?_
      exact Steps.refl _)
    obtain ⟨T3, X3, q3, st3⟩ := cinst X0 hexec hown (wk W (.classLink "java/lang/String" 10 "java/lang/String")) (hy.mv X0.warmed.alike hh0).1 (g := (mkF m 8 #[.val (.ref x), .val (.ref y), .unset] [.ref y])) rfl (rest := []) rfl (hb hbytes d8)
    have hh3 := q3.trans hh0
    have c4 : Steps p.tables e below (s₁.setTop (entryFrame m #[.ref x, .ref y] 3)) (T3.setTop (mkF m 15 #[.val (.ref x), .val (.ref y), .unset] [.ref y])) := (c2.trans (st3 _ (Steps.refl _))).trans (by
      refine XS.ifNo X3.here hexec rfl (hb hbytes d11) rfl (i0_eq_f (by decide)) ?_
      refine XS.aloadN X3.here hexec rfl (hb hbytes d14) rfl rfl ?_
      exact Steps.refl _)
    obtain ⟨T5, X5, q5, st5⟩ := cself X3 hexec hown (wk W (.classLink "java/lang/String" 10 "java/lang/String")) (hy.mv X3.warmed.alike hh3).1 (g := (mkF m 15 #[.val (.ref x), .val (.ref y), .unset] [.ref y])) rfl (rest := []) rfl (hb hbytes d15)
    have hh5 := q5.trans hh3
    have c6 : Steps p.tables e below (s₁.setTop (entryFrame m #[.ref x, .ref y] 3)) (T5.setTop (mkF m 19 #[.val (.ref x), .val (.ref y), .val (.ref y)] [])) := (c4.trans (st5 _ (Steps.refl _))).trans (by
      refine XS.astoreN X5.here hexec rfl (hb hbytes d18) rfl rfl rfl ?_
      exact Steps.refl _)
    obtain ⟨T7, X7, q7, st7⟩ := X5.sget hexec hown (wk W (.fieldLink "java/lang/String" 38 "java/lang/String" "COMPACT_STRINGS" "Z")) s1 (fun _ _ h => by rw [hh5]; exact h) (g := (mkF m 19 #[.val (.ref x), .val (.ref y), .val (.ref y)] [])) rfl (hb hbytes d19)
    have hh7 := q7.trans hh5
    have c8 : Steps p.tables e below (s₁.setTop (entryFrame m #[.ref x, .ref y] 3)) (T7.setTop (mkF m 26 #[.val (.ref x), .val (.ref y), .val (.ref y)] [.ref x])) := (c6.trans (st7 _ (Steps.refl _))).trans (by
      refine XS.ifNo X7.here hexec rfl (hb hbytes d22) rfl (i0_eq_f hz) ?_
      refine XS.aloadN X7.here hexec rfl (hb hbytes d25) rfl rfl ?_
      exact Steps.refl _)
    obtain ⟨T9, X9, q9, st9⟩ := X7.hget hexec hown (wk W (.fieldLink "java/lang/String" 15 "java/lang/String" "coder" "B")) (hx.mv X7.warmed.alike hh7).2.2.1 (g := (mkF m 26 #[.val (.ref x), .val (.ref y), .val (.ref y)] [.ref x])) rfl (rest := []) rfl (hb hbytes d26)
    have hh9 := q9.trans hh7
    have c10 : Steps p.tables e below (s₁.setTop (entryFrame m #[.ref x, .ref y] 3)) (T9.setTop (mkF m 30 #[.val (.ref x), .val (.ref y), .val (.ref y)] [.ref y, .int cd])) := (c8.trans (st9 _ (Steps.refl _))).trans (by
      refine XS.aloadN X9.here hexec rfl (hb hbytes d29) rfl rfl ?_
      exact Steps.refl _)
    obtain ⟨T11, X11, q11, st11⟩ := X9.hget hexec hown (wk W (.fieldLink "java/lang/String" 15 "java/lang/String" "coder" "B")) (hy.mv X9.warmed.alike hh9).2.2.1 (g := (mkF m 30 #[.val (.ref x), .val (.ref y), .val (.ref y)] [.ref y, .int cd])) rfl (rest := [.int cd]) rfl (hb hbytes d30)
    have hh11 := q11.trans hh9
    have c12 : Steps p.tables e below (s₁.setTop (entryFrame m #[.ref x, .ref y] 3)) (T11.setTop (mkF m 33 #[.val (.ref x), .val (.ref y), .val (.ref y)] [.int cd', .int cd])) := c10.trans (st11 _ (Steps.refl _))
    by_cases hcd : cd = cd'
    · subst hcd
      have c13 : Steps p.tables e below (s₁.setTop (entryFrame m #[.ref x, .ref y] 3)) (T11.setTop (mkF m 37 #[.val (.ref x), .val (.ref y), .val (.ref y)] [.ref x])) := c12.trans (by
        refine XS.icmpNo X11.here hexec rfl (hb hbytes d33) rfl (ii_ne_f rfl) ?_
        refine XS.aloadN X11.here hexec rfl (hb hbytes d36) rfl rfl ?_
        exact Steps.refl _)
      obtain ⟨T14, X14, q14, st14⟩ := X11.hget hexec hown (wk W (.fieldLink "java/lang/String" 9 "java/lang/String" "value" "[B")) (hx.mv X11.warmed.alike hh11).2.1 (g := (mkF m 37 #[.val (.ref x), .val (.ref y), .val (.ref y)] [.ref x])) rfl (rest := []) rfl (hb hbytes d37)
      have hh14 := q14.trans hh11
      have c15 : Steps p.tables e below (s₁.setTop (entryFrame m #[.ref x, .ref y] 3)) (T14.setTop (mkF m 41 #[.val (.ref x), .val (.ref y), .val (.ref y)] [.ref y, .ref t])) := (c13.trans (st14 _ (Steps.refl _))).trans (by
        refine XS.aloadN X14.here hexec rfl (hb hbytes d40) rfl rfl ?_
        exact Steps.refl _)
      obtain ⟨T16, X16, q16, st16⟩ := X14.hget hexec hown (wk W (.fieldLink "java/lang/String" 9 "java/lang/String" "value" "[B")) (hy.mv X14.warmed.alike hh14).2.1 (g := (mkF m 41 #[.val (.ref x), .val (.ref y), .val (.ref y)] [.ref y, .ref t])) rfl (rest := [.ref t]) rfl (hb hbytes d41)
      have hh16 := q16.trans hh14
      have c17 : Steps p.tables e below (s₁.setTop (entryFrame m #[.ref x, .ref y] 3)) (T16.setTop (mkF m 44 #[.val (.ref x), .val (.ref y), .val (.ref y)] [.ref t', .ref t])) := c15.trans (st16 _ (Steps.refl _))
      obtain ⟨v18, T18, X18, E18, g18⟩ := X16.callS hexec (LEq.law l t V t' V') hown (wks W (staticW "java/lang/String" 541 LEq.yN)) (wk W LEq.tab) (W := 0) (Nat.le_of_ble_eq_true rfl) (Nat.le_of_ble_eq_true rfl) (Nat.le_refl _) (Nat.le_refl _) (g := (mkF m 44 #[.val (.ref x), .val (.ref y), .val (.ref y)] [.ref t', .ref t])) rfl (by rw [hml]; rfl) c17 (argsL := [.ref t, .ref t']) (rest := []) rfl rfl (by show 2 * 0 + 0 ≤ _; decide) (hb hbytes d44) (⟨rfl, hx.2.2.2.1.mv X16.warmed.alike hh16, hx.2.2.2.2.1.ty, hy.2.2.2.1.mv X16.warmed.alike hh16, hy.2.2.2.2.1.ty⟩)
      obtain ⟨v, rfl, q18, hv⟩ := E18
      have iff := Cod.eqv hx.2.2.2.2.1 hy.2.2.2.2.1 hx.2.2.2.2.2 hy.2.2.2.2.2
      rcases hv with ⟨rfl, he⟩ | ⟨rfl, he⟩
      · have c19 : Steps p.tables e below (s₁.setTop (entryFrame m #[.ref x, .ref y] 3)) (T18.setTop (mkF m 55 #[.val (.ref x), .val (.ref y), .val (.ref y)] [.int 1])) := Steps.trans g18 (by
          refine XS.ifNo X18.here hexec rfl (hb hbytes d47) rfl (i0_eq_f (by decide)) ?_
          refine iconstV X18.here hexec rfl 1 (hb hbytes d50) (by decide) ?_
          refine XS.goto X18.here hexec rfl (pc0 := 51) rfl (hb hbytes d51) (by decide) rfl ?_
          exact Steps.refl _)
        exact ⟨T18, some (.int 1), _, _, _, X18, rfl, rfl, rfl, (fun h => by cases h), ⟨1, rfl, q18.trans hh16, Or.inl ⟨rfl, iff.mp he⟩⟩, fun fs hl => c19.trans (X18.ireturnOut hexec hret rfl (Or.inr (Or.inl rfl)) (hb hbytes d55) hl)⟩
      · have c19 : Steps p.tables e below (s₁.setTop (entryFrame m #[.ref x, .ref y] 3)) (T18.setTop (mkF m 55 #[.val (.ref x), .val (.ref y), .val (.ref y)] [.int 0])) := Steps.trans g18 (by
          refine XS.ifYes X18.here hexec rfl (pc0 := 47) rfl (hb hbytes d47) rfl (i0_eq_t rfl) (by decide) rfl ?_
          refine iconstV X18.here hexec rfl 0 (hb hbytes d54) (by decide) ?_
          exact Steps.refl _)
        exact ⟨T18, some (.int 0), _, _, _, X18, rfl, rfl, rfl, (fun h => by cases h), ⟨0, rfl, q18.trans hh16, Or.inr ⟨rfl, fun q => he (iff.mpr q)⟩⟩, fun fs hl => c19.trans (X18.ireturnOut hexec hret rfl (Or.inr (Or.inl rfl)) (hb hbytes d55) hl)⟩
    · have c13 : Steps p.tables e below (s₁.setTop (entryFrame m #[.ref x, .ref y] 3)) (T11.setTop (mkF m 55 #[.val (.ref x), .val (.ref y), .val (.ref y)] [.int 0])) := c12.trans (by
        refine XS.icmpYes X11.here hexec rfl (pc0 := 33) rfl (hb hbytes d33) rfl (ii_ne_t hcd) (by decide) rfl ?_
        refine iconstV X11.here hexec rfl 0 (hb hbytes d54) (by decide) ?_
        exact Steps.refl _)
      exact ⟨T11, some (.int 0), _, _, _, X11, rfl, rfl, rfl, (fun h => by cases h), ⟨0, rfl, hh11, Or.inr ⟨rfl, Cod.dif hx.2.2.2.2.1 hy.2.2.2.2.1 hcd⟩⟩, fun fs hl => c13.trans (X11.ireturnOut hexec hret rfl (Or.inr (Or.inl rfl)) (hb hbytes d55) hl)⟩
theorem pays {l : Launch} {R : Room} {p : Program} {e : Env} {below : List Frame} {s : State} {sargs : Array Value} {len W : Nat} (x t : Addr) (V : Cell) (cd : Int32) (n : Nat) (f : Nat → Int32) (y t' : Addr) (V' : Cell) (cd' : Int32) (k : Nat) (g : Nat → Int32) (z : Int32) (htab : tab.before sargs s = true) (hfr : 2 ≤ R.frames) (hlo : W + 28 ≤ R.locals) :
    Back l R p e below s sargs yN len W (fun A₁ a₁ => A₁.cells + 0 ≤ R.cells ∧ A₁.slots + 0 ≤ R.slots ∧ P x t V cd n f y t' V' cd' k g z a₁ A₁.U) (fun A₁ _ v₁ B₁ => Says01 (SameT n f k g) v₁ A₁.U B₁.U ∧ B₁.locs = A₁.locs ++ [] ∧ B₁.cells = A₁.cells + 0 ∧ B₁.slots = A₁.slots + 0) :=
  (law l x t V cd n f y t' V' cd' k g z).pays htab hfr (by omega)
end SEq
end StrChars
namespace StrChars.Road
open Jvm Sem ClassFile Op Lib Jvm.Stand Jvm.Free Jvm.Free.XT
open Jvm.Lib.Cold (StaticIs)
/-- the words of String.equals(Object) -/
abbrev wordsEq : List Jvm.Cond := [.code SEq.yN SEq.yB 3 (some .boolean), .initialized ST, .classLink ST 10 ST, .fieldLink ST 38 ST "COMPACT_STRINGS" "Z", .fieldLink ST 15 ST "coder" "B", .fieldLink ST 9 ST "value" "[B", .methodLink ST 541 LEq.yN, .static LEq.yN, .code LEq.yN LEq.yB 3 (some .boolean), .initialized "java/lang/StringLatin1"]
theorem tabEq_of {a : Array Value} {s : State} (h : ∀ w ∈ wordsEq, w.before a s = true) : SEq.tab.before a s = true := by
  have hl : LEq.tab.before a s = true := unparts (wk h (.code LEq.yN LEq.yB 3 (some .boolean))) (wks h (.initialized LEq.yN.cls :: LEq.site))
  have q := consq hl h
  exact unparts (wk q (.code SEq.yN SEq.yB 3 (some .boolean))) (wks q (.initialized SEq.yN.cls :: SEq.site))
theorem movedEq {Z s : State} {a0 args : Array Value} (hZ : Z.Warmed39 s.vm) (hw : ∀ d ∈ wordsEq, d.before a0 Z = true) : ∀ d ∈ wordsEq, d.before args s = true := fun d hd => by
  have t : ∀ d ∈ wordsEq, (d.onTables && d.keepsFace) = true := by decide +kernel
  exact RoadKit.mv hZ (hw d hd) (t d hd)
/-- the road's facts of a String, as the laws ask it -/
theorem txt_of {Z U : State} {a0 : Array Value} {kI : Nat} (wi : (Jvm.Cond.instantiable ST kI).before a0 Z = true) (al : Z.vm.Alike U.vm) {x t : Addr} {kb : ClassId} {cs : List Int32} {cd N2 : Int32} {vs : List Value} (E : RoadKit.Exa Z U.heap x ST) (V : RoadKit.Fld Z U.heap x ST "value" "[B" (.ref t)) (C : RoadKit.Fld Z U.heap x ST "coder" "B" (.int cd)) (K : RoadKit.Arv Z U.heap t kb .byte N2 vs (.int 0)) (hc : CodA cs cd N2 vs) (hb : ∀ c ∈ cs, ¬ c < 0 ∧ ¬ (65535 : Int32) < c) (l2 : cs.length ≤ 4000) :
    ∃ A, Txt x t A cd cs.length (fun j => cs.getD j 0) U := by
  obtain ⟨A, K1, K2, K3, K4, K5, K6⟩ := K
  have hcod := hc.cod (by omega) K3 K5
  obtain ⟨D, fV, fC, hB, F1, F2, g1, g2, -, -⟩ := strObj wi al E V C
  exact ⟨A, ⟨_, hB.2.2.1, D, hB.1, rfl, by cases q : D.vm <;> first | rfl | exact absurd q (hB.2.1.2 _)⟩, Has.of hB F1 g1, Has.of hB F2 g2, ⟨K1.1, State.isArrayOf_alike al K1.2.1, K1.2.2, by rcases hcod with ⟨-, q, -⟩ | ⟨-, q, -⟩ <;> omega⟩, hcod, fun j hj => by
    have e : cs.getD j 0 = cs[j] := by simp [List.getD_eq_getElem?_getD, hj]
    show ¬ cs.getD j 0 < 0 ∧ ¬ 65535 < cs.getD j 0
    rw [e]; exact hb _ (List.getElem_mem _)⟩
theorem same_list (cs ds : List Int32) : SameT cs.length (fun j => cs.getD j 0) ds.length (fun j => ds.getD j 0) ↔ cs = ds := by
  constructor
  · rintro ⟨e, q⟩
    refine List.ext_getElem e fun j h1 h2 => ?_
    have := q j h1
    simpa [List.getD_eq_getElem?_getD, h1, h2] using this
  · rintro rfl
    exact ⟨rfl, fun _ _ => rfl⟩
/-- **equals(Object) OF TWO SUCH STRINGS**: 1 just where the chars are the same -/
theorem eqW {p : Program} {l : Launch} {e : Env} {R : Room} {s : State} {args : Array Value} {below : List Frame} {len W : Nat} {Z : State} {a0 : Array Value} {h : Heap} (hZ : Z.Warmed39 s.vm) (hw : ∀ d ∈ wordsEq, d.before a0 Z = true) {kI : Nat} (wi : (Jvm.Cond.instantiable ST kI).before a0 Z = true)
    {x t : Addr} {kb : ClassId} {cs : List Int32} {cd N2 : Int32} {vs : List Value} (E : RoadKit.Exa Z h x ST) (V : RoadKit.Fld Z h x ST "value" "[B" (.ref t)) (C : RoadKit.Fld Z h x ST "coder" "B" (.int cd)) (K : RoadKit.Arv Z h t kb .byte N2 vs (.int 0)) (hc : CodA cs cd N2 vs) (hb : ∀ c ∈ cs, ¬ c < 0 ∧ ¬ (65535 : Int32) < c) (l2 : cs.length ≤ 4000)
    {y t' : Addr} {kb' : ClassId} {ds : List Int32} {cd' N2' : Int32} {vs' : List Value} (E' : RoadKit.Exa Z h y ST) (V' : RoadKit.Fld Z h y ST "value" "[B" (.ref t')) (C' : RoadKit.Fld Z h y ST "coder" "B" (.int cd')) (K' : RoadKit.Arv Z h t' kb' .byte N2' vs' (.int 0)) (hc' : CodA ds cd' N2' vs') (hb' : ∀ c ∈ ds, ¬ c < 0 ∧ ¬ (65535 : Int32) < c) (l2' : ds.length ≤ 4000)
    {z : Int32} (S : RoadKit.Sta Z h ST "COMPACT_STRINGS" "Z" (.int z)) (hz : ¬ z = 0) (hfr : 2 ≤ R.frames) (hlo : W + 28 ≤ R.locals) :
    Back l R p e below s args (⟨"java/lang/String", "equals", "(Ljava/lang/Object;)Z"⟩ : MethodName) len W (fun P a => a = #[.ref x, .ref y] ∧ P.U.heap = h ∧ P.cells + 0 ≤ R.cells ∧ P.slots + 0 ≤ R.slots)
      (fun P _ v B => ∃ L, (((v = some (.int 1) ∧ cs = ds) ∨ (v = some (.int 0) ∧ ¬ cs = ds)) ∧ L = [] ∧ B.U.heap = h) ∧ B.locs = P.locs ++ L ∧ B.cells = P.cells + 0 ∧ B.slots = P.slots + 0) := by
  intro m meth c P g ig mk a X hg hsize hdg hW hn hp'
  obtain ⟨rfl, rfl, r1, r2⟩ := hp'
  have al : Z.vm.Alike P.U.vm := hZ.alike.trans X.warmed.alike
  obtain ⟨A, hx⟩ := txt_of wi al E V C K hc hb l2
  obtain ⟨A', hy⟩ := txt_of wi al E' V' C' K' hc' hb' l2'
  obtain ⟨v, B, X', ⟨⟨w, hv, hh, hq⟩, hl, hk, hs⟩, st⟩ := SEq.pays x t A cd cs.length (fun j => cs.getD j 0) y t' A' cd' ds.length (fun j => ds.getD j 0) z (tabEq_of (movedEq hZ hw)) hfr hlo m meth c P g ig mk _ X hg hsize hdg hW hn ⟨r1, r2, rfl, hx, hy, sta_is al S, hz⟩
  refine ⟨v, B, X', ⟨[], ⟨?_, rfl, hh⟩, hl, hk, hs⟩, st⟩
  rcases hq with ⟨rfl, q⟩ | ⟨rfl, q⟩
  · exact Or.inl ⟨hv, (same_list cs ds).mp q⟩
  · exact Or.inr ⟨hv, fun e => q ((same_list cs ds).mpr e)⟩
end StrChars.Road
namespace StrChars.Road
open Jvm Sem ClassFile Op Lib Jvm.Stand Jvm.Free Jvm.Free.XT
open Jvm.Lib.Cold (StaticIs)
/-- what backV says of its String, as the contracts of this text ask it: cs's low bytes, coder 0 -/
theorem codOf {cs : List Int32} {n : Nat} (hn : cs.length = n) (hb : ∀ c ∈ cs, ¬ 255 < c) : CodA cs 0 (Int32.ofNat n) ((cs.map lo8).map Value.int) := Or.inl ⟨rfl, by rw [hn], by simp [List.map_map, Function.comp_def], hb⟩
end StrChars.Road
end Jvm.Pilot.@@N@@
namespace Jvm.Pilot.@@N@@
open Jvm Jvm.ClassFile Sem Op Lib Jvm.Free Jvm.Stand Jvm.LawKit Jvm.RoadKit Bundle Jvm.Pilot.@@N@@.Jvm.D
def bI (P : Prop) [Decidable P] : Int32 := if P then 1 else 0
theorem bI_eq {P Q : Prop} [Decidable P] [Decidable Q] : bI P = bI Q ↔ (P ↔ Q) := by unfold bI; by_cases h : P <;> by_cases g : Q <;> simp [h, g]
theorem bI_eq1 {P : Prop} [Decidable P] : bI P = 1 ↔ P := by unfold bI; by_cases h : P <;> simp [h]
theorem bI_1eq {P : Prop} [Decidable P] : 1 = bI P ↔ P := by unfold bI; by_cases h : P <;> simp [h]
theorem bI_eq0 {P : Prop} [Decidable P] : bI P = 0 ↔ (P ↔ False) := by unfold bI; by_cases h : P <;> simp [h]
theorem bI_0eq {P : Prop} [Decidable P] : 0 = bI P ↔ (False ↔ P) := by unfold bI; by_cases h : P <;> simp [h]
theorem bI_t {P : Prop} [Decidable P] (h : P) : bI P = 1 := if_pos h
theorem bI_f {P : Prop} [Decidable P] (h : ¬ P) : bI P = 0 := if_neg h
theorem bI_iff {P Q : Prop} [Decidable P] [Decidable Q] (h : P ↔ Q) : bI P = bI Q := bI_eq.mpr h
theorem imp_iff_h {P Q : Prop} (h : P) : (P → Q) ↔ Q := ⟨fun f => f h, fun q _ => q⟩
theorem sel_t {P A B : Prop} (h : P) : ((P ∧ A) ∨ (¬ P ∧ B)) ↔ A := ⟨fun q => q.elim (fun z => z.2) (fun z => absurd h z.1), fun a => Or.inl ⟨h, a⟩⟩
theorem sel_f {P A B : Prop} (h : ¬ P) : ((P ∧ A) ∨ (¬ P ∧ B)) ↔ B := ⟨fun q => q.elim (fun z => absurd z.1 h) (fun z => z.2), fun b => Or.inr ⟨h, b⟩⟩
theorem bB_eq_t {P : Prop} [Decidable P] (h : ¬ P) : ifCond.holds .eq (bI P) = true := by rw [bI_f h]; rfl
theorem bB_eq_f {P : Prop} [Decidable P] (h : P) : ifCond.holds .eq (bI P) = false := by rw [bI_t h]; rfl
theorem bB_ne_t {P : Prop} [Decidable P] (h : P) : ifCond.holds .ne (bI P) = true := by rw [bI_t h]; rfl
theorem bB_ne_f {P : Prop} [Decidable P] (h : ¬ P) : ifCond.holds .ne (bI P) = false := by rw [bI_f h]; rfl
theorem bI_nar {P : Prop} [Decidable P] : nar .boolean (bI P) = bI P := by by_cases h : P <;> simp only [bI, h, if_true, if_false] <;> rfl
theorem bI_ret {P : Prop} [Decidable P] : (some (.int (nar .boolean (bI P))) : Option Value) = some (.int (bI P)) := by rw [bI_nar]
theorem bI_one {P : Prop} [Decidable P] (h : P) : (some (.int (nar .boolean (bI P))) : Option Value) = some (.int 1) := by rw [bI_nar, bI_t h]
theorem own_ite_ref {P : Prop} [Decidable P] {x y : Value} (h : x.isRef = true) (g : y.isRef = true) : (if P then x else y).isRef = true := by by_cases q : P <;> simp [q, h, g]
theorem own_fits_ref {t : FieldType} {x : Value} (ht : t.isReference = true) (h : x.isRef = true) : fits t x = true := by cases t <;> first | (cases ht; done) | (cases x <;> simp_all [fits, Value.isRef])
theorem own_eqI {args : Array Value} {s : State} {t : Term} {k : Int32} (h : (Cond.eq t (.int k)).value args s none s [] = some true) : t.eval args s none [] s = some (.int k) := by
  simp only [Cond.value, Term.eval] at h
  cases ht : t.eval args s none [] s with
  | none => simp [ht] at h
  | some v => cases v <;> simp [ht] at h ⊢; exact h
theorem own_eqR {args : Array Value} {s : State} {t u : Term} {v : Value} (hu : u.eval args s none [] s = some v) (hv : v.isRef = true) (h : (Cond.eq t u).value args s none s [] = some true) : t.eval args s none [] s = some v := by
  cases ht : t.eval args s none [] s with
  | none => simp [Cond.value, ht, hu] at h
  | some x =>
    rcases ref_cases hv with rfl | ⟨a, rfl⟩ <;> cases x <;> simp [Cond.value, ht, hu] at h ⊢ <;> exact h
theorem own_len {args : Array Value} {s : State} {t : Term} {a : Addr} {c : Cell} {ty : FieldType} {k : Int32} (ev : t.eval args s none [] s = some (.ref a)) (A : Arr s s.heap a c ty) (h : (Term.length t).eval args s none [] s = some (.int k)) : c.slots.size < 2 ^ 31 ∧ c.slots.size.toInt32 = k := by
  have ha := A.fin (Vm.Alike.refl _)
  by_cases q : c.slots.size < 2 ^ 31
  · rw [len_f ev ha q] at h; exact ⟨q, by injection h with h; injection h⟩
  · simp [Term.eval, ev, ha, q] at h


theorem own_up {cs : List Int32} (h : ∀ c ∈ cs, ¬ c < 0 ∧ ¬ (255 : Int32) < c) : ∀ c ∈ cs, ¬ c < 0 ∧ ¬ (65535 : Int32) < c := fun c hc => ⟨(h c hc).1, fun q => (h c hc).2 (by rw [Int32.lt_iff_toInt_lt] at q ⊢; have e1 : (65535 : Int32).toInt = 65535 := rfl; have e2 : (255 : Int32).toInt = 255 := rfl; omega)⟩
theorem own_p0 : ∀ c ∈ ([] : List Int32), ¬ c < 0 ∧ ¬ (255 : Int32) < c := fun _ h => nomatch h
theorem own_pS {c : Int32} {cs : List Int32} (h : ¬ c < 0 ∧ ¬ (255 : Int32) < c) (g : ∀ c ∈ cs, ¬ c < 0 ∧ ¬ (255 : Int32) < c) : ∀ x ∈ c :: cs, ¬ x < 0 ∧ ¬ (255 : Int32) < x := fun x q => by
  rcases List.mem_cons.mp q with rfl | q
  · exact h
  · exact g x q
theorem own_eqB {v : Option Value} {cs ds : List Int32} {P Q : Prop} (h : (((v = some (.int 1) ∧ cs = ds) ∨ (v = some (.int 0) ∧ ¬ cs = ds)) ∧ P ∧ Q)) : v = some (.int (bI (cs = ds))) ∧ P ∧ Q := by
  obtain ⟨⟨h1, h2⟩ | ⟨h1, h2⟩, h3, h4⟩ := h
  · exact ⟨by rw [h1, bI_t h2], h3, h4⟩
  · exact ⟨by rw [h1, bI_f h2], h3, h4⟩
theorem own_cod {cs : List Int32} {n : Nat} {N : Int32} (hn : cs.length = n) (hN : N = Int32.ofNat n) (h : ∀ c ∈ cs, ¬ c < 0 ∧ ¬ (255 : Int32) < c) : StrChars.Road.CodA cs 0 N ((cs.map (fun c => c.toInt8.toInt32)).map Value.int) := by
  subst hN
  exact StrChars.Road.codOf hn (fun c hc => (h c hc).2)
theorem own_and255 (x : Int32) : ¬ (nar .char ((x &&& (255 : Int32)).toUInt32.toUInt16.toUInt32.toInt32)) < 0 ∧ ¬ (255 : Int32) < (nar .char ((x &&& (255 : Int32)).toUInt32.toUInt16.toUInt32.toInt32)) := by
  have t : ∀ k : Fin 256, ¬ nar .char ((Int32.ofNat k.val).toUInt32.toUInt16.toUInt32.toInt32) < 0 ∧ ¬ (255 : Int32) < nar .char ((Int32.ofNat k.val).toUInt32.toUInt16.toUInt32.toInt32) := by decide +kernel
  have h : (x &&& 255).toBitVec.toNat < 256 := by
    simp only [Int32.toBitVec_and, BitVec.toNat_and]
    exact Nat.lt_succ_of_le Nat.and_le_right
  have e : (x &&& 255) = Int32.ofNat (x &&& 255).toBitVec.toNat := by
    apply Int32.toBitVec_inj.mp
    show _ = BitVec.ofNat 32 _
    rw [BitVec.ofNat_toNat]; simp
  rw [e]
  exact t ⟨_, h⟩
theorem own_neI {args : Array Value} {s : State} {t : Term} {k x : Int32} (ev : t.eval args s none [] s = some (.int x)) (h : (Jvm.Cond.not (.eq t (.int k))).value args s none s [] = some true) : ¬ x = k := by
  have q := not_v h
  intro e
  subst e
  rw [eq_i ev (Term.int_eval x) rfl] at q
  cases q
theorem own_i2c {ch : Int32} (h : ¬ ch < 0 ∧ ch < (256 : Int32)) : ch.toUInt32.toUInt16.toUInt32.toInt32 = ch := by
  have r := c_i2c ch
  have z0 : (0 : Int32).toInt = 0 := rfl
  have z1 : (256 : Int32).toInt = 256 := rfl
  rw [Int32.lt_iff_toInt_lt, Int32.lt_iff_toInt_lt, z0, z1] at h
  refine Int32.toInt_inj.mp ?_
  omega
theorem own_256 {c : Int32} (h : ¬ c < 0 ∧ ¬ (255 : Int32) < c) : ¬ c < 0 ∧ c < (256 : Int32) := by
  have z1 : (256 : Int32).toInt = 256 := rfl
  have z2 : (255 : Int32).toInt = 255 := rfl
  refine ⟨h.1, ?_⟩
  have g := h.2
  rw [Int32.lt_iff_toInt_lt, z2] at g
  rw [Int32.lt_iff_toInt_lt, z1]; omega
theorem own_char {c : Int32} (h : ¬ c < 0 ∧ ¬ (255 : Int32) < c) : nar .char ((c.toInt8.toInt32 &&& (255 : Int32)).toUInt32.toUInt16.toUInt32.toInt32) = c := by
  have b := c_i2b c
  have m := c_mask c.toInt8.toInt32 (255 : Int32) 8 (by decide) (by decide)
  have pw : ((2 ^ 8 : Nat) : Int) = 256 := rfl
  rw [pw] at m
  have z0 : (0 : Int32).toInt = 0 := rfl
  have z2 : (255 : Int32).toInt = 255 := rfl
  rw [Int32.lt_iff_toInt_lt, Int32.lt_iff_toInt_lt, z0, z2] at h
  have e : (c.toInt8.toInt32 &&& (255 : Int32)) = c := Int32.toInt_inj.mp (by rw [m]; omega)
  rw [e]
  have k : ¬ c < 0 ∧ c < (256 : Int32) := by
    have z1 : (256 : Int32).toInt = 256 := rfl
    rw [Int32.lt_iff_toInt_lt, Int32.lt_iff_toInt_lt, z0, z1]; omega
  rw [own_i2c k]
  exact own_i2c k
theorem own_bI2 {P : Prop} [Decidable P] : ¬ (bI P = (2 : Int32)) := by
  by_cases h : P <;> simp only [bI, h, if_true, if_false] <;> decide
theorem own_max (q : Int64) : ¬ ((if (1 : Int64) < q then q else (1 : Int64)) < (1 : Int64)) := by
  by_cases h : (1 : Int64) < q
  · rw [if_pos h]; rw [Int64.lt_iff_toInt_lt] at h ⊢; omega
  · rw [if_neg h]; decide
theorem own_tab_keep {Z : State} {h h' : Heap} {a : Addr} {c : Cell} {ty : FieldType} {n : Int32} (K : Keep h h' []) (T : Tab Z h a c ty n) : Tab Z h' a c ty n := ⟨⟨K.2.1 a c T.1.1 nin0, T.1.2⟩, T.2⟩

theorem d1_0 : decode method_2_code 0 = .ok (.iconst 2, 1) := by decide +kernel
theorem d1_1 : decode method_2_code 1 = .ok (.newarray .char, 2) := by decide +kernel
theorem d1_3 : decode method_2_code 3 = .ok (.astore_n 2, 1) := by decide +kernel
theorem d1_4 : decode method_2_code 4 = .ok (.aload_n 2, 1) := by decide +kernel
theorem d1_5 : decode method_2_code 5 = .ok (.iconst 0, 1) := by decide +kernel
theorem d1_6 : decode method_2_code 6 = .ok (.iload_n 0, 1) := by decide +kernel
theorem d1_7 : decode method_2_code 7 = .ok (.sipush 255, 3) := by decide +kernel
theorem d1_10 : decode method_2_code 10 = .ok (.iand, 1) := by decide +kernel
theorem d1_11 : decode method_2_code 11 = .ok (.i2c, 1) := by decide +kernel
theorem d1_12 : decode method_2_code 12 = .ok (.castore, 1) := by decide +kernel
theorem d1_13 : decode method_2_code 13 = .ok (.aload_n 2, 1) := by decide +kernel
theorem d1_14 : decode method_2_code 14 = .ok (.iconst 1, 1) := by decide +kernel
theorem d1_15 : decode method_2_code 15 = .ok (.iload_n 1, 1) := by decide +kernel
theorem d1_16 : decode method_2_code 16 = .ok (.castore, 1) := by decide +kernel
theorem d1_17 : decode method_2_code 17 = .ok (.new 7, 3) := by decide +kernel
theorem d1_20 : decode method_2_code 20 = .ok (.dup, 1) := by decide +kernel
theorem d1_21 : decode method_2_code 21 = .ok (.aload_n 2, 1) := by decide +kernel
theorem d1_22 : decode method_2_code 22 = .ok (.invokespecial 9, 3) := by decide +kernel
theorem d1_25 : decode method_2_code 25 = .ok (.areturn, 1) := by decide +kernel
theorem pn_1 : plainName "com/example/leasehold/leasehold/RecordedValueInPinLaw" = true := by first | (simp [plainName, overriddenIn]; done) | decide +kernel
theorem pd___C_V : parseMethodDescriptor "([C)V" = some ⟨[(.array .char)], none⟩ := by decide +kernel
theorem ef_rmTwo (m : MethodId) (x0 : Int32) (x1 : Int32) : entryFrame m #[(.int x0), (.int x1)] 3 = mkF m 0 #[.val (.int x0), .val (.int x1), .unset] [] := by first | (simp [entryFrame, mkF, argsToLocals, Value.category]; done) | rfl
def QTwo (Z : State) (p1 : Int32) (p2 : Int32) (z0 : Int32) (h0 : Heap) (n0 : Nat) (v : Option Value) (h : Heap) (L : List Loc) : Prop := ∃ (r t : Addr) (k : ClassId), v = some (.ref r) ∧ Fr n0 L ∧ Keep h0 h [] ∧ n0 ≤ r ∧ h0.size ≤ r ∧ n0 ≤ t ∧ h0.size ≤ t ∧ Exa Z h r "java/lang/String" ∧ Fld Z h r "java/lang/String" "value" "[B" (.ref t) ∧ Fld Z h r "java/lang/String" "coder" "B" (.int (0 : Int32)) ∧ Arv Z h t k .byte (2 : Int32) ((([(nar .char (p1 &&& (255 : Int32)).toUInt32.toUInt16.toUInt32.toInt32), (nar .char p2)] : List Int32).map (fun c => c.toInt8.toInt32)).map Value.int) (.int (0 : Int32))
set_option maxRecDepth 65536 in
set_option maxHeartbeats 40000000 in
theorem rmTwo (l : Launch) (Z : State) (a0 : Array Value) (hw : ∀ d ∈ tables_1, d.before a0 Z = true) (ws : List Jvm.Cond) (p1 : Int32) (p2 : Int32) (z0 : Int32) (h0 : Heap) (n0 : Nat) (Z0 : n0 ≤ h0.size) (S_CS : Sta Z h0 "java/lang/String" "COMPACT_STRINGS" "Z" (.int z0)) (hz : ¬ z0 = 0) (hp2 : ¬ (nar .char p2) < 0 ∧ ¬ (255 : Int32) < (nar .char p2)) :
    MetFree l (⟨"com/example/leasehold/leasehold/RecordedValueInPinLaw", "two", "(IC)Ljava/lang/String;"⟩ : MethodName) (head1 (Jvm.Cond.code (⟨"com/example/leasehold/leasehold/RecordedValueInPinLaw", "two", "(IC)Ljava/lang/String;"⟩ : MethodName) method_2_code 3 (some (.object "java/lang/String")) :: ws) ({ frames := 4, cells := 3, slots := 8, locals := 66 } : Room)) (fun ar UU => ar = #[(.int p1), (.int p2)] ∧ Z.Warmed39 UU.vm ∧ UU.heap = h0) (fun _ _ _ _ _ => True) (fun _ UU oo UU' => ∃ vv LL, oo = .returned vv ∧ QTwo Z p1 p2 z0 h0 n0 vv UU'.heap LL ∧ FrameEnd UU oo UU' LL ({ frames := 4, cells := 3, slots := 8, locals := 66 } : Room).cells ({ frames := 4, cells := 3, slots := 8, locals := 66 } : Room).slots) := by
  refine MetFree.of_bodySF (plainFor_of_name pn_1) hisR ?_
  intro p e s m args below meth c s₁ Bd hml0 hP hK
  obtain ⟨rfl, hZ, hh⟩ := hP
  have hx := Bd.exec
  have hby := Bd.bytes
  have hml : c.maxLocals = 3 := hml0
  have hown : s.vm.findClass "com/example/leasehold/leasehold/RecordedValueInPinLaw" = some m.cls := findClass_of_methodNamed Bd.named
  have hnm := (name_of_methodNamed Bd.named Bd.method).1
  have X0 : Stand p l e ({ frames := 4, cells := 3, slots := 8, locals := 66 } : Room) s m #[(.int p1), (.int p2)] below meth c s₁ [] 0 0 := Stand.of_body Bd
  have e0 : s₁.heap = h0 := by rw [← hh, Bd.state]; rfl
  have N0 := Fr.nil n0
  have KC0 : Keep h0 h0 [] := Keep.refl h0 []
  have pre0 : ∀ tgt, Steps p.tables e below (s₁.setTop (mkF m 0 #[.val (.int p1), .val (.int p2), .unset] [])) tgt → Steps p.tables e below (s₁.setTop (entryFrame m #[(.int p1), (.int p2)] 3)) tgt := fun tgt kk => castTop (ef_rmTwo m (p1) (p2)) kk
  have pre1 : ∀ tgt, Steps p.tables e below (s₁.setTop (mkF m 1 #[.val (.int p1), .val (.int p2), .unset] [(.int (2 : Int32))])) tgt → Steps p.tables e below (s₁.setTop (entryFrame m #[(.int p1), (.int p2)] 3)) tgt := by
    intro tgt kk
    refine pre0 tgt ?_
    refine XS.iconst X0.here hx rfl (hb hby d1_0) ?_
    show Steps p.tables e below (s₁.setTop (mkF m 1 #[.val (.int p1), .val (.int p2), .unset] [(.int (2 : Int32))])) _
    exact kk
  obtain ⟨T2, h2, k2, X2, e2, E2, A2, st2⟩ := newP X0 hx hZ (hw _ (List.mem_of_getElem? (i := 4) rfl)) e0 (g := (mkF m 1 #[.val (.int p1), .val (.int p2), .unset] [(.int (2 : Int32))])) rfl (hb hby d1_1) rfl (by decide) (cap := 2) (by decide) (by decide) (by decide) (by decide)
  obtain ⟨b2, g2⟩ : ∃ z, z = h0.size := ⟨_, rfl⟩
  rw [← g2] at A2 st2
  have gn3 : n0 ≤ b2 := Nat.le_trans Z0 (Nat.le_of_eq g2.symm)
  have sz3 : h0.size ≤ b2 := Nat.le_trans KC0.1 (Nat.le_of_eq g2.symm)
  have S_CS : Sta Z h2 "java/lang/String" "COMPACT_STRINGS" "Z" (.int z0) := S_CS.ext E2
  have Zs4 : n0 ≤ h2.size := Nat.le_trans Z0 E2.1
  have KC4 : Keep h0 h2 [] := KC0.ext E2
  have V_b2 : Arv Z h2 b2 k2 .char (2 : Int32) [(.int (0 : Int32)), (.int (0 : Int32))] (.int (0 : Int32)) := (Arv.new A2 (by decide)).pad (pad_rep [] (.int (0 : Int32)) 2)
  have pre5 : ∀ tgt, Steps p.tables e below (T2.setTop (mkF m 12 #[.val (.int p1), .val (.int p2), .val (.ref b2)] [(.int (p1 &&& (255 : Int32)).toUInt32.toUInt16.toUInt32.toInt32), (.int (0 : Int32)), (.ref b2)])) tgt → Steps p.tables e below (s₁.setTop (entryFrame m #[(.int p1), (.int p2)] 3)) tgt := by
    intro tgt kk
    refine pre1 tgt ?_
    refine st2 _ ?_
    show Steps p.tables e below (T2.setTop (mkF m 3 #[.val (.int p1), .val (.int p2), .unset] [(.ref b2)])) _
    refine XS.astoreN X2.here hx rfl (hb hby d1_3) rfl rfl (l' := #[.val (.int p1), .val (.int p2), .val (.ref b2)]) rfl ?_
    show Steps p.tables e below (T2.setTop (mkF m 4 #[.val (.int p1), .val (.int p2), .val (.ref b2)] [])) _
    refine XS.aloadN X2.here hx rfl (hb hby d1_4) rfl rfl ?_
    show Steps p.tables e below (T2.setTop (mkF m 5 #[.val (.int p1), .val (.int p2), .val (.ref b2)] [(.ref b2)])) _
    refine XS.iconst X2.here hx rfl (hb hby d1_5) ?_
    show Steps p.tables e below (T2.setTop (mkF m 6 #[.val (.int p1), .val (.int p2), .val (.ref b2)] [(.int (0 : Int32)), (.ref b2)])) _
    refine XS.iloadN X2.here hx rfl (hb hby d1_6) rfl ?_
    show Steps p.tables e below (T2.setTop (mkF m 7 #[.val (.int p1), .val (.int p2), .val (.ref b2)] [(.int p1), (.int (0 : Int32)), (.ref b2)])) _
    refine XS.sipush X2.here hx rfl (hb hby d1_7) ?_
    show Steps p.tables e below (T2.setTop (mkF m 10 #[.val (.int p1), .val (.int p2), .val (.ref b2)] [(.int (255 : Int32)), (.int p1), (.int (0 : Int32)), (.ref b2)])) _
    refine XS.iand X2.here hx rfl (hb hby d1_10) rfl ?_
    show Steps p.tables e below (T2.setTop (mkF m 11 #[.val (.int p1), .val (.int p2), .val (.ref b2)] [(.int (p1 &&& (255 : Int32))), (.int (0 : Int32)), (.ref b2)])) _
    refine XS.i2c X2.here hx rfl (hb hby d1_11) rfl ?_
    show Steps p.tables e below (T2.setTop (mkF m 12 #[.val (.int p1), .val (.int p2), .val (.ref b2)] [(.int (p1 &&& (255 : Int32)).toUInt32.toUInt16.toUInt32.toInt32), (.int (0 : Int32)), (.ref b2)])) _
    exact kk
  obtain ⟨cl6, Ar6, aq6, aS6, aN6, aH6, aG6⟩ := id V_b2
  have hin7 : ¬ ((0 : Int32) < 0 ∨ cl6.slots.size ≤ ((0 : Int32)).toNatClampNeg) := inb_of aS6 ⟨by decide, by decide⟩
  obtain ⟨T7, h7, X7, e7, W7, st7⟩ := stC X2 hx hZ e2 Ar6 (j := (0 : Int32)) hin7 (g := (mkF m 12 #[.val (.int p1), .val (.int p2), .val (.ref b2)] [(.int (p1 &&& (255 : Int32)).toUInt32.toUInt16.toUInt32.toInt32), (.int (0 : Int32)), (.ref b2)])) rfl rfl (hb hby d1_12)
  have N7 := Fr.snoc X7 N0 gn3
  have Vq7 : Arv Z h7 b2 k2 .char (2 : Int32) [(.int (nar .char (p1 &&& (255 : Int32)).toUInt32.toUInt16.toUInt32.toInt32)), (.int (0 : Int32))] (.int (0 : Int32)) := Arv.set Ar6 aq6 aS6 aN6 aH6 aG6 (fits_nar_char _) W7 0 rfl (Nat.le_of_ble_eq_true rfl)
  have S_CS : Sta Z h7 "java/lang/String" "COMPACT_STRINGS" "Z" (.int z0) := S_CS.wr W7
  have Zs8 : n0 ≤ h7.size := Nat.le_trans Zs4 (Keep.of_wr W7).1
  have KC8 : Keep h0 h7 [] := KC4.wr W7 (Or.inr sz3)
  have V_b2 := Vq7
  have pre9 : ∀ tgt, Steps p.tables e below (T7.setTop (mkF m 16 #[.val (.int p1), .val (.int p2), .val (.ref b2)] [(.int p2), (.int (1 : Int32)), (.ref b2)])) tgt → Steps p.tables e below (s₁.setTop (entryFrame m #[(.int p1), (.int p2)] 3)) tgt := by
    intro tgt kk
    refine pre5 tgt ?_
    refine st7 _ ?_
    show Steps p.tables e below (T7.setTop (mkF m 13 #[.val (.int p1), .val (.int p2), .val (.ref b2)] [])) _
    refine XS.aloadN X7.here hx rfl (hb hby d1_13) rfl rfl ?_
    show Steps p.tables e below (T7.setTop (mkF m 14 #[.val (.int p1), .val (.int p2), .val (.ref b2)] [(.ref b2)])) _
    refine XS.iconst X7.here hx rfl (hb hby d1_14) ?_
    show Steps p.tables e below (T7.setTop (mkF m 15 #[.val (.int p1), .val (.int p2), .val (.ref b2)] [(.int (1 : Int32)), (.ref b2)])) _
    refine XS.iloadN X7.here hx rfl (hb hby d1_15) rfl ?_
    show Steps p.tables e below (T7.setTop (mkF m 16 #[.val (.int p1), .val (.int p2), .val (.ref b2)] [(.int p2), (.int (1 : Int32)), (.ref b2)])) _
    exact kk
  obtain ⟨cl10, Ar10, aq10, aS10, aN10, aH10, aG10⟩ := id V_b2
  have hin11 : ¬ ((1 : Int32) < 0 ∨ cl10.slots.size ≤ ((1 : Int32)).toNatClampNeg) := inb_of aS10 ⟨by decide, by decide⟩
  obtain ⟨T11, h11, X11, e11, W11, st11⟩ := stC X7 hx hZ e7 Ar10 (j := (1 : Int32)) hin11 (g := (mkF m 16 #[.val (.int p1), .val (.int p2), .val (.ref b2)] [(.int p2), (.int (1 : Int32)), (.ref b2)])) rfl rfl (hb hby d1_16)
  have N11 := Fr.snoc X11 N7 gn3
  have Vq11 : Arv Z h11 b2 k2 .char (2 : Int32) [(.int (nar .char (p1 &&& (255 : Int32)).toUInt32.toUInt16.toUInt32.toInt32)), (.int (nar .char p2))] (.int (0 : Int32)) := Arv.set Ar10 aq10 aS10 aN10 aH10 aG10 (fits_nar_char _) W11 1 rfl (Nat.le_of_ble_eq_true rfl)
  have S_CS : Sta Z h11 "java/lang/String" "COMPACT_STRINGS" "Z" (.int z0) := S_CS.wr W11
  have Zs12 : n0 ≤ h11.size := Nat.le_trans Zs8 (Keep.of_wr W11).1
  have KC12 : Keep h0 h11 [] := KC8.wr W11 (Or.inr sz3)
  have V_b2 := Vq11
  have pre13 : ∀ tgt, Steps p.tables e below (T11.setTop (mkF m 17 #[.val (.int p1), .val (.int p2), .val (.ref b2)] [])) tgt → Steps p.tables e below (s₁.setTop (entryFrame m #[(.int p1), (.int p2)] 3)) tgt := by
    intro tgt kk
    refine pre9 tgt ?_
    refine st11 _ ?_
    show Steps p.tables e below (T11.setTop (mkF m 17 #[.val (.int p1), .val (.int p2), .val (.ref b2)] [])) _
    exact kk
  obtain ⟨T14, h14, X14, e14, E14, A14, D14, -, st14⟩ := newO X11 hx hZ hown (hw _ (List.mem_of_getElem? (i := 5) rfl)) (hw _ (List.mem_of_getElem? (i := 6) rfl)) (hw _ (List.mem_of_getElem? (i := 7) rfl)) e11 (g := (mkF m 17 #[.val (.int p1), .val (.int p2), .val (.ref b2)] [])) rfl (hb hby d1_17) (by decide) (by decide)
  obtain ⟨b14, g14⟩ : ∃ z, z = h11.size := ⟨_, rfl⟩
  rw [← g14] at A14 D14 st14
  have ne15 : b2 ≠ b14 := Nat.ne_of_lt (Nat.lt_of_lt_of_le V_b2.lt (Nat.le_of_eq g14.symm))
  have gn16 : n0 ≤ b14 := Nat.le_trans Zs12 (Nat.le_of_eq g14.symm)
  have sz16 : h0.size ≤ b14 := Nat.le_trans KC12.1 (Nat.le_of_eq g14.symm)
  have S_CS : Sta Z h14 "java/lang/String" "COMPACT_STRINGS" "Z" (.int z0) := S_CS.ext E14
  have V_b2 : Arv Z h14 b2 k2 .char (2 : Int32) [(.int (nar .char (p1 &&& (255 : Int32)).toUInt32.toUInt16.toUInt32.toInt32)), (.int (nar .char p2))] (.int (0 : Int32)) := V_b2.ext E14
  have Zs17 : n0 ≤ h14.size := Nat.le_trans Zs12 E14.1
  have KC17 : Keep h0 h14 [] := KC12.ext E14
  have E_b14 : Exa Z h14 b14 "java/lang/String" := A14
  have F_coder_b14 : Fld Z h14 b14 "java/lang/String" "coder" "B" (.int (0 : Int32)) := D14 (Or.inr (hw _ (List.mem_of_getElem? (i := 31) rfl))) (ty := .byte) (by decide)
  have F_value_b14 : Fld Z h14 b14 "java/lang/String" "value" "[B" .null := D14 (Or.inr (hw _ (List.mem_of_getElem? (i := 33) rfl))) (ty := (.array .byte)) (by decide)
  have pre18 : ∀ tgt, Steps p.tables e below (T14.setTop (mkF m 22 #[.val (.int p1), .val (.int p2), .val (.ref b2)] [(.ref b2), (.ref b14), (.ref b14)])) tgt → Steps p.tables e below (s₁.setTop (entryFrame m #[(.int p1), (.int p2)] 3)) tgt := by
    intro tgt kk
    refine pre13 tgt ?_
    refine st14 _ ?_
    show Steps p.tables e below (T14.setTop (mkF m 20 #[.val (.int p1), .val (.int p2), .val (.ref b2)] [(.ref b14)])) _
    refine XS.dup X14.here hx rfl (hb hby d1_20) rfl rfl ?_
    show Steps p.tables e below (T14.setTop (mkF m 21 #[.val (.int p1), .val (.int p2), .val (.ref b2)] [(.ref b14), (.ref b14)])) _
    refine XS.aloadN X14.here hx rfl (hb hby d1_21) rfl rfl ?_
    show Steps p.tables e below (T14.setTop (mkF m 22 #[.val (.int p1), .val (.int p2), .val (.ref b2)] [(.ref b2), (.ref b14), (.ref b14)])) _
    exact kk
  have hwv19 : ∀ d ∈ StrChars.Road.words, d.before a0 Z = true := fun d hd => hw d ((by decide +kernel : ∀ d ∈ StrChars.Road.words, d ∈ tables_1) d hd)
  have lt20_0 := V_b2.lt
  have lt20_1 := E_b14.lt
  obtain ⟨_, _, ⟨T21, L21, k21, n21⟩, -, X21, ⟨Lc21, hQ21, l21, y21, z21⟩, st21⟩ := X14.specialBack hx (y := (⟨"java/lang/String", "<init>", "([C)V"⟩ : MethodName)) rfl hown (mvT hZ (hw _ (List.mem_of_getElem? (i := 8) rfl))) (mvT hZ (hw _ (List.mem_of_getElem? (i := 9) rfl))) (mvT hZ (hw _ (List.mem_of_getElem? (i := 10) rfl))) (by decide) (StrChars.Road.backV (W := 1) hZ hwv19 (kI := 4) (hw _ (List.mem_of_getElem? (i := 6) rfl)) (cs := [(nar .char (p1 &&& (255 : Int32)).toUInt32.toUInt16.toUInt32.toInt32), (nar .char p2)]) (bs := ([(nar .char (p1 &&& (255 : Int32)).toUInt32.toUInt16.toUInt32.toInt32), (nar .char p2)] : List Int32).map (fun c => c.toInt8.toInt32)) (n := 2) (n0 := n0) gn16 Zs17 E_b14 F_value_b14 F_coder_b14 V_b2 S_CS hz rfl rfl (by decide) (by decide) (own_pS (own_and255 p1) (own_pS hp2 own_p0)) rfl (by decide) (by decide)) (g := (mkF m 22 #[.val (.int p1), .val (.int p2), .val (.ref b2)] [(.ref b2), (.ref b14), (.ref b14)])) rfl (by rw [hml]; rfl) (Steps.refl _) (a := b14) (argsL := [(.ref b2)]) (rest := [(.ref b14)]) (lenOf pd___C_V rfl) rfl (by show 2 * 0 + _ ≤ _; exact Nat.le_of_eq rfl) (hb hby d1_22) (fun _ _ => ⟨rfl, e14, (by decide : 2 + 1 ≤ _), (by decide : 6 + 2 ≤ _)⟩)
  dsimp only [Pt.U, Pt.locs, Pt.cells, Pt.slots] at X21 l21 y21 z21 st21 hQ21
  subst l21 y21 z21
  obtain ⟨rfl, N21q, K21, -, Qc21, tt21, kk21, gt21, st_21, -, Qv21, Qa21⟩ := hQ21
  have N21 := Fr.app N11 N21q
  have pl23 := own_plain_Exa E_b14
  have S_CS : Sta Z T21.heap "java/lang/String" "COMPACT_STRINGS" "Z" (.int z0) := own_sta_keep S_CS K21 (allS pl23 all0)
  have V_b2 : Arv Z T21.heap b2 k2 .char (2 : Int32) [(.int (nar .char (p1 &&& (255 : Int32)).toUInt32.toUInt16.toUInt32.toInt32)), (.int (nar .char p2))] (.int (0 : Int32)) := V_b2.keep K21 (ninS ne15 nin0)
  have E_b14 : Exa Z T21.heap b14 "java/lang/String" := E_b14.keep K21
  have Zs22 : n0 ≤ T21.heap.size := Nat.le_trans Zs17 K21.1
  have KC22 : Keep h0 T21.heap [] := KC17.trans K21 (allS (Or.inr sz16) all0)
  have net21_lt20_0 : b2 ≠ tt21 := Nat.ne_of_lt (Nat.lt_of_lt_of_le lt20_0 st_21)
  have net21_lt20_1 : b14 ≠ tt21 := Nat.ne_of_lt (Nat.lt_of_lt_of_le lt20_1 st_21)
  have szt21 : h0.size ≤ tt21 := Nat.le_trans KC17.1 st_21
  have Fv_b14 : Fld Z T21.heap b14 "java/lang/String" "value" "[B" (.ref tt21) := Qv21
  have Fc_b14 : Fld Z T21.heap b14 "java/lang/String" "coder" "B" (.int (0 : Int32)) := Qc21
  have V_b14 : Arv Z T21.heap tt21 kk21 .byte (2 : Int32) ((([(nar .char (p1 &&& (255 : Int32)).toUInt32.toUInt16.toUInt32.toInt32), (nar .char p2)] : List Int32).map (fun c => c.toInt8.toInt32)).map Value.int) (.int (0 : Int32)) := Qa21
  obtain ⟨fs, hr, hrun, hended, hW, hsame⟩ := X21.leave (v := some (.ref b14)) (fun h => by rw [Bd.returns] at h; cases h)
  refine ⟨_, _, pre18 _ ?_, hrun, hended, _, _, rfl, ?_, ⟨_, rfl⟩, hW, hsame.mono (by decide) (by decide)⟩
  · skip
    refine st21.trans ?_
    show Steps p.tables e below (T21.setTop (mkF m 25 #[.val (.int p1), .val (.int p2), .val (.ref b2)] [(.ref b14)])) _
    exact retOut X21 hx Bd.returns rfl (Or.inr (Or.inr (Or.inr (Or.inr ⟨rfl, rfl, rfl⟩)))) (hb hby d1_25) hr
  · show QTwo Z p1 p2 z0 h0 n0 _ T21.heap _
    exact ⟨b14, tt21, kk21, rfl, N21, KC22, gn16, sz16, gt21, szt21, E_b14, Fv_b14, Fc_b14, V_b14⟩
theorem d17_0 : decode jdk_116_method_1_code 0 = .ok (.iload_n 1, 1) := by decide +kernel
theorem d17_1 : decode jdk_116_method_1_code 1 = .ok (.i2c, 1) := by decide +kernel
theorem d17_2 : decode jdk_116_method_1_code 2 = .ok (.istore_n 2, 1) := by decide +kernel
theorem d17_3 : decode jdk_116_method_1_code 3 = .ok (.getstatic 1, 3) := by decide +kernel
theorem d17_6 : decode jdk_116_method_1_code 6 = .ok (.iload_n 2, 1) := by decide +kernel
theorem d17_7 : decode jdk_116_method_1_code 7 = .ok (.iaload, 1) := by decide +kernel
theorem d17_8 : decode jdk_116_method_1_code 8 = .ok (.istore_n 3, 1) := by decide +kernel
theorem d17_9 : decode jdk_116_method_1_code 9 = .ok (.iload_n 3, 1) := by decide +kernel
theorem d17_10 : decode jdk_116_method_1_code 10 = .ok (.ireturn, 1) := by decide +kernel
theorem pn_17 : plainName "java/lang/CharacterDataLatin1" = true := by first | (simp [plainName, overriddenIn]; done) | decide +kernel
theorem ef_rmGP (m : MethodId) (x0 : Addr) (x1 : Int32) : entryFrame m #[(.ref x0), (.int x1)] 4 = mkF m 0 #[.val (.ref x0), .val (.int x1), .unset, .unset] [] := by first | (simp [entryFrame, mkF, argsToLocals, Value.category]; done) | rfl
def QGP (Z : State) (a : Addr) (ch : Int32) (aA : Addr) (clA : Cell) (h0 : Heap) (n0 : Nat) (v : Option Value) (h : Heap) (L : List Loc) : Prop := v = some (.int (atv clA ch)) ∧ Fr n0 L ∧ h = h0
set_option maxRecDepth 65536 in
set_option maxHeartbeats 40000000 in
theorem rmGP (l : Launch) (Z : State) (a0 : Array Value) (hw : ∀ d ∈ tables_1, d.before a0 Z = true) (ws : List Jvm.Cond) (a : Addr) (ch : Int32) (aA : Addr) (clA : Cell) (h0 : Heap) (n0 : Nat) (Z0 : n0 ≤ h0.size) (S_A : Sta Z h0 "java/lang/CharacterDataLatin1" "A" "[I" (.ref aA)) (Tb : Tab Z h0 aA clA .int (256 : Int32)) (hr0 : ¬ ch < 0 ∧ ch < (256 : Int32)) :
    MetFree l (⟨"java/lang/CharacterDataLatin1", "getProperties", "(I)I"⟩ : MethodName) (head1 (Jvm.Cond.code (⟨"java/lang/CharacterDataLatin1", "getProperties", "(I)I"⟩ : MethodName) jdk_116_method_1_code 4 (some .int) :: ws) ({ frames := 0, cells := 0, slots := 0, locals := 0 } : Room)) (fun ar UU => ar = #[(.ref a), (.int ch)] ∧ Z.Warmed39 UU.vm ∧ UU.heap = h0) (fun _ _ _ _ _ => True) (fun _ UU oo UU' => ∃ vv LL, oo = .returned vv ∧ QGP Z a ch aA clA h0 n0 vv UU'.heap LL ∧ FrameEnd UU oo UU' LL ({ frames := 0, cells := 0, slots := 0, locals := 0 } : Room).cells ({ frames := 0, cells := 0, slots := 0, locals := 0 } : Room).slots) := by
  refine MetFree.of_bodySF (plainFor_of_name pn_17) hisR ?_
  intro p e s m args below meth c s₁ Bd hml0 hP hK
  obtain ⟨rfl, hZ, hh⟩ := hP
  have hx := Bd.exec
  have hby := Bd.bytes
  have hml : c.maxLocals = 4 := hml0
  have hown : s.vm.findClass "java/lang/CharacterDataLatin1" = some m.cls := findClass_of_methodNamed Bd.named
  have hnm := (name_of_methodNamed Bd.named Bd.method).1
  have X0 : Stand p l e ({ frames := 0, cells := 0, slots := 0, locals := 0 } : Room) s m #[(.ref a), (.int ch)] below meth c s₁ [] 0 0 := Stand.of_body Bd
  have e0 : s₁.heap = h0 := by rw [← hh, Bd.state]; rfl
  have N0 := Fr.nil n0
  have KC0 : Keep h0 h0 [] := Keep.refl h0 []
  have pre0 : ∀ tgt, Steps p.tables e below (s₁.setTop (mkF m 0 #[.val (.ref a), .val (.int ch), .unset, .unset] [])) tgt → Steps p.tables e below (s₁.setTop (entryFrame m #[(.ref a), (.int ch)] 4)) tgt := fun tgt kk => castTop (ef_rmGP m (a) (ch)) kk
  have pre1 : ∀ tgt, Steps p.tables e below (s₁.setTop (mkF m 3 #[.val (.ref a), .val (.int ch), .val (.int ch.toUInt32.toUInt16.toUInt32.toInt32), .unset] [])) tgt → Steps p.tables e below (s₁.setTop (entryFrame m #[(.ref a), (.int ch)] 4)) tgt := by
    intro tgt kk
    refine pre0 tgt ?_
    refine XS.iloadN X0.here hx rfl (hb hby d17_0) rfl ?_
    show Steps p.tables e below (s₁.setTop (mkF m 1 #[.val (.ref a), .val (.int ch), .unset, .unset] [(.int ch)])) _
    refine XS.i2c X0.here hx rfl (hb hby d17_1) rfl ?_
    show Steps p.tables e below (s₁.setTop (mkF m 2 #[.val (.ref a), .val (.int ch), .unset, .unset] [(.int ch.toUInt32.toUInt16.toUInt32.toInt32)])) _
    refine XS.istoreN X0.here hx rfl (hb hby d17_2) rfl (l' := #[.val (.ref a), .val (.int ch), .val (.int ch.toUInt32.toUInt16.toUInt32.toInt32), .unset]) rfl ?_
    show Steps p.tables e below (s₁.setTop (mkF m 3 #[.val (.ref a), .val (.int ch), .val (.int ch.toUInt32.toUInt16.toUInt32.toInt32), .unset] [])) _
    exact kk
  obtain ⟨T2, X2, e2, st2⟩ := getS X0 hx hZ hown (host := "") (hw _ (List.mem_of_getElem? (i := 82) rfl)) Via.refl e0 S_A (g := (mkF m 3 #[.val (.ref a), .val (.int ch), .val (.int ch.toUInt32.toUInt16.toUInt32.toInt32), .unset] [])) rfl (hb hby d17_3)
  have pre3 : ∀ tgt, Steps p.tables e below (T2.setTop (mkF m 7 #[.val (.ref a), .val (.int ch), .val (.int ch.toUInt32.toUInt16.toUInt32.toInt32), .unset] [(.int ch.toUInt32.toUInt16.toUInt32.toInt32), (.ref aA)])) tgt → Steps p.tables e below (s₁.setTop (entryFrame m #[(.ref a), (.int ch)] 4)) tgt := by
    intro tgt kk
    refine pre1 tgt ?_
    refine st2 _ ?_
    show Steps p.tables e below (T2.setTop (mkF m 6 #[.val (.ref a), .val (.int ch), .val (.int ch.toUInt32.toUInt16.toUInt32.toInt32), .unset] [(.ref aA)])) _
    refine XS.iloadN X2.here hx rfl (hb hby d17_6) rfl ?_
    show Steps p.tables e below (T2.setTop (mkF m 7 #[.val (.ref a), .val (.int ch), .val (.int ch.toUInt32.toUInt16.toUInt32.toInt32), .unset] [(.int ch.toUInt32.toUInt16.toUInt32.toInt32), (.ref aA)])) _
    exact kk
  have hin : ¬ (ch.toUInt32.toUInt16.toUInt32.toInt32 < 0 ∨ clA.slots.size ≤ (ch.toUInt32.toUInt16.toUInt32.toInt32).toNatClampNeg) := inb_of Tb.2.1 (by rw [own_i2c hr0]; exact hr0)
  have hat := Tb.2.2.2 ch.toUInt32.toUInt16.toUInt32.toInt32 hin
  obtain ⟨fs, hr, hrun, hended, hW, hsame⟩ := X2.leave (v := some (.int (atv clA ch.toUInt32.toUInt16.toUInt32.toInt32))) (fun h => by rw [Bd.returns] at h; cases h)
  refine ⟨_, _, pre3 _ ?_, hrun, hended, _, _, rfl, ?_, ⟨_, rfl⟩, hW, hsame.mono (by decide) (by decide)⟩
  · skip
    refine X2.iaload hx (j := ch.toUInt32.toUInt16.toUInt32.toInt32) (v := (.int (atv clA ch.toUInt32.toUInt16.toUInt32.toInt32))) (by rw [e2]; exact Tb.1.1) (State.isArrayOf_alike hZ.alike Tb.1.2.1) Tb.1.2.2 hin hat (g := (mkF m 7 #[.val (.ref a), .val (.int ch), .val (.int ch.toUInt32.toUInt16.toUInt32.toInt32), .unset] [(.int ch.toUInt32.toUInt16.toUInt32.toInt32), (.ref aA)])) rfl rfl (hb hby d17_7) _ ?_
    show Steps p.tables e below (T2.setTop (mkF m 8 #[.val (.ref a), .val (.int ch), .val (.int ch.toUInt32.toUInt16.toUInt32.toInt32), .unset] [(.int (atv clA ch.toUInt32.toUInt16.toUInt32.toInt32))])) _
    refine XS.istoreN X2.here hx rfl (hb hby d17_8) rfl (l' := #[.val (.ref a), .val (.int ch), .val (.int ch.toUInt32.toUInt16.toUInt32.toInt32), .val (.int (atv clA ch.toUInt32.toUInt16.toUInt32.toInt32))]) rfl ?_
    show Steps p.tables e below (T2.setTop (mkF m 9 #[.val (.ref a), .val (.int ch), .val (.int ch.toUInt32.toUInt16.toUInt32.toInt32), .val (.int (atv clA ch.toUInt32.toUInt16.toUInt32.toInt32))] [])) _
    refine XS.iloadN X2.here hx rfl (hb hby d17_9) rfl ?_
    show Steps p.tables e below (T2.setTop (mkF m 10 #[.val (.ref a), .val (.int ch), .val (.int ch.toUInt32.toUInt16.toUInt32.toInt32), .val (.int (atv clA ch.toUInt32.toUInt16.toUInt32.toInt32))] [(.int (atv clA ch.toUInt32.toUInt16.toUInt32.toInt32))])) _
    exact retI X2 hx Bd.returns (hb hby d17_10) hr
  · show QGP Z a ch aA clA h0 n0 _ T2.heap _
    rw [e2]
    exact ⟨by rw [own_i2c hr0], N0, rfl⟩
theorem d16_0 : decode jdk_116_method_26_code 0 = .ok (.aload_n 0, 1) := by decide +kernel
theorem d16_1 : decode jdk_116_method_26_code 1 = .ok (.iload_n 1, 1) := by decide +kernel
theorem d16_2 : decode jdk_116_method_26_code 2 = .ok (.invokevirtual 15, 3) := by decide +kernel
theorem d16_5 : decode jdk_116_method_26_code 5 = .ok (.istore_n 2, 1) := by decide +kernel
theorem d16_6 : decode jdk_116_method_26_code 6 = .ok (.iload_n 2, 1) := by decide +kernel
theorem d16_7 : decode jdk_116_method_26_code 7 = .ok (.sipush 28672, 3) := by decide +kernel
theorem d16_10 : decode jdk_116_method_26_code 10 = .ok (.iand, 1) := by decide +kernel
theorem d16_11 : decode jdk_116_method_26_code 11 = .ok (.sipush 16384, 3) := by decide +kernel
theorem d16_14 : decode jdk_116_method_26_code 14 = .ok (.if_icmp .ne 7, 3) := by decide +kernel
theorem d16_17 : decode jdk_116_method_26_code 17 = .ok (.iconst 1, 1) := by decide +kernel
theorem d16_18 : decode jdk_116_method_26_code 18 = .ok (.goto 4, 3) := by decide +kernel
theorem d16_21 : decode jdk_116_method_26_code 21 = .ok (.iconst 0, 1) := by decide +kernel
theorem d16_22 : decode jdk_116_method_26_code 22 = .ok (.ireturn, 1) := by decide +kernel
theorem pn_16 : plainName "java/lang/CharacterDataLatin1" = true := by first | (simp [plainName, overriddenIn]; done) | decide +kernel
theorem pd__I_I : parseMethodDescriptor "(I)I" = some ⟨[.int], some .int⟩ := by decide +kernel
theorem ef_rmW (m : MethodId) (x0 : Addr) (x1 : Int32) : entryFrame m #[(.ref x0), (.int x1)] 3 = mkF m 0 #[.val (.ref x0), .val (.int x1), .unset] [] := by first | (simp [entryFrame, mkF, argsToLocals, Value.category]; done) | rfl
def QW (Z : State) (a : Addr) (ch : Int32) (aA : Addr) (clA : Cell) (h0 : Heap) (n0 : Nat) (v : Option Value) (h : Heap) (L : List Loc) : Prop := v = some (.int (bI (((atv clA ch) &&& (28672 : Int32)) = (16384 : Int32)))) ∧ Fr n0 L ∧ h = h0
set_option maxRecDepth 65536 in
set_option maxHeartbeats 40000000 in
theorem rmW (l : Launch) (Z : State) (a0 : Array Value) (hw : ∀ d ∈ tables_1, d.before a0 Z = true) (ws : List Jvm.Cond) (a : Addr) (ch : Int32) (aA : Addr) (clA : Cell) (h0 : Heap) (n0 : Nat) (Z0 : n0 ≤ h0.size) (E_a : Exa Z h0 a "java/lang/CharacterDataLatin1") (S_A : Sta Z h0 "java/lang/CharacterDataLatin1" "A" "[I" (.ref aA)) (Tb : Tab Z h0 aA clA .int (256 : Int32)) (hr0 : ¬ ch < 0 ∧ ch < (256 : Int32)) :
    MetFree l (⟨"java/lang/CharacterDataLatin1", "isWhitespace", "(I)Z"⟩ : MethodName) (head1 (Jvm.Cond.code (⟨"java/lang/CharacterDataLatin1", "isWhitespace", "(I)Z"⟩ : MethodName) jdk_116_method_26_code 3 (some .boolean) :: ws) ({ frames := 1, cells := 0, slots := 0, locals := 15 } : Room)) (fun ar UU => ar = #[(.ref a), (.int ch)] ∧ Z.Warmed39 UU.vm ∧ UU.heap = h0) (fun _ _ _ _ _ => True) (fun _ UU oo UU' => ∃ vv LL, oo = .returned vv ∧ QW Z a ch aA clA h0 n0 vv UU'.heap LL ∧ FrameEnd UU oo UU' LL ({ frames := 1, cells := 0, slots := 0, locals := 15 } : Room).cells ({ frames := 1, cells := 0, slots := 0, locals := 15 } : Room).slots) := by
  refine MetFree.of_bodySF (plainFor_of_name pn_16) hisR ?_
  intro p e s m args below meth c s₁ Bd hml0 hP hK
  obtain ⟨rfl, hZ, hh⟩ := hP
  have hx := Bd.exec
  have hby := Bd.bytes
  have hml : c.maxLocals = 3 := hml0
  have hown : s.vm.findClass "java/lang/CharacterDataLatin1" = some m.cls := findClass_of_methodNamed Bd.named
  have hnm := (name_of_methodNamed Bd.named Bd.method).1
  have X0 : Stand p l e ({ frames := 1, cells := 0, slots := 0, locals := 15 } : Room) s m #[(.ref a), (.int ch)] below meth c s₁ [] 0 0 := Stand.of_body Bd
  have e0 : s₁.heap = h0 := by rw [← hh, Bd.state]; rfl
  have N0 := Fr.nil n0
  have KC0 : Keep h0 h0 [] := Keep.refl h0 []
  have pre0 : ∀ tgt, Steps p.tables e below (s₁.setTop (mkF m 0 #[.val (.ref a), .val (.int ch), .unset] [])) tgt → Steps p.tables e below (s₁.setTop (entryFrame m #[(.ref a), (.int ch)] 3)) tgt := fun tgt kk => castTop (ef_rmW m (a) (ch)) kk
  have pre1 : ∀ tgt, Steps p.tables e below (s₁.setTop (mkF m 2 #[.val (.ref a), .val (.int ch), .unset] [(.int ch), (.ref a)])) tgt → Steps p.tables e below (s₁.setTop (entryFrame m #[(.ref a), (.int ch)] 3)) tgt := by
    intro tgt kk
    refine pre0 tgt ?_
    refine XS.aloadN X0.here hx rfl (hb hby d16_0) rfl rfl ?_
    show Steps p.tables e below (s₁.setTop (mkF m 1 #[.val (.ref a), .val (.int ch), .unset] [(.ref a)])) _
    refine XS.iloadN X0.here hx rfl (hb hby d16_1) rfl ?_
    show Steps p.tables e below (s₁.setTop (mkF m 2 #[.val (.ref a), .val (.int ch), .unset] [(.int ch), (.ref a)])) _
    exact kk
  obtain ⟨cq2, kq2, q2a, q2b, q2c⟩ := isOf hZ e0 E_a
  obtain ⟨_, _, ⟨T2, L2, k2, n2⟩, -, X2, ⟨Lc2, hQ2, l2, y2, z2⟩, st2⟩ := X0.virtualBack hx (y := (⟨"java/lang/CharacterDataLatin1", "getProperties", "(I)I"⟩ : MethodName)) (z := (⟨"java/lang/CharacterDataLatin1", "getProperties", "(I)I"⟩ : MethodName)) hown (mvT hZ (hw _ (List.mem_of_getElem? (i := 77) rfl))) (mvT hZ (hw _ (List.mem_of_getElem? (i := 78) rfl))) (notFace_of_selects (args := #[]) (mvT hZ (hw _ (List.mem_of_getElem? (i := 80) rfl)))) (mvT hZ (hw _ (List.mem_of_getElem? (i := 80) rfl))) (mvT hZ (hw _ (List.mem_of_getElem? (i := 79) rfl))) (by decide) (backOf (W := 0) (rmGP l Z a0 hw [] a (ch) aA clA h0 n0 Z0 S_A Tb hr0) hZ (hw _ (List.mem_of_getElem? (i := 81) rfl)) (hw _ (List.mem_of_getElem? (i := 71) rfl)) (by decide) (by decide)) q2a q2c (g := (mkF m 2 #[.val (.ref a), .val (.int ch), .unset] [(.int ch), (.ref a)])) rfl (by rw [hml]; rfl) (Steps.refl _) (argsL := [(.int ch)]) (rest := []) (lenOf pd__I_I rfl) rfl (by show 2 * 0 + _ ≤ _; exact Nat.le_of_eq rfl) (hb hby d16_2) (fun _ _ => ⟨rfl, e0, (by decide : 0 + 0 ≤ _), (by decide : 0 + 0 ≤ _)⟩)
  dsimp only [Pt.U, Pt.locs, Pt.cells, Pt.slots] at X2 l2 y2 z2 st2 hQ2
  subst l2 y2 z2
  obtain ⟨rfl, N2q, hh2⟩ := hQ2
  have N2 := Fr.app N0 N2q
  have pre3 : ∀ tgt, Steps p.tables e below (T2.setTop (mkF m 14 #[.val (.ref a), .val (.int ch), .val (.int (atv clA ch))] [(.int (16384 : Int32)), (.int ((atv clA ch) &&& (28672 : Int32)))])) tgt → Steps p.tables e below (s₁.setTop (entryFrame m #[(.ref a), (.int ch)] 3)) tgt := by
    intro tgt kk
    refine pre1 tgt ?_
    refine st2.trans ?_
    show Steps p.tables e below (T2.setTop (mkF m 5 #[.val (.ref a), .val (.int ch), .unset] [(.int (atv clA ch))])) _
    refine XS.istoreN X2.here hx rfl (hb hby d16_5) rfl (l' := #[.val (.ref a), .val (.int ch), .val (.int (atv clA ch))]) rfl ?_
    show Steps p.tables e below (T2.setTop (mkF m 6 #[.val (.ref a), .val (.int ch), .val (.int (atv clA ch))] [])) _
    refine XS.iloadN X2.here hx rfl (hb hby d16_6) rfl ?_
    show Steps p.tables e below (T2.setTop (mkF m 7 #[.val (.ref a), .val (.int ch), .val (.int (atv clA ch))] [(.int (atv clA ch))])) _
    refine XS.sipush X2.here hx rfl (hb hby d16_7) ?_
    show Steps p.tables e below (T2.setTop (mkF m 10 #[.val (.ref a), .val (.int ch), .val (.int (atv clA ch))] [(.int (28672 : Int32)), (.int (atv clA ch))])) _
    refine XS.iand X2.here hx rfl (hb hby d16_10) rfl ?_
    show Steps p.tables e below (T2.setTop (mkF m 11 #[.val (.ref a), .val (.int ch), .val (.int (atv clA ch))] [(.int ((atv clA ch) &&& (28672 : Int32)))])) _
    refine XS.sipush X2.here hx rfl (hb hby d16_11) ?_
    show Steps p.tables e below (T2.setTop (mkF m 14 #[.val (.ref a), .val (.int ch), .val (.int (atv clA ch))] [(.int (16384 : Int32)), (.int ((atv clA ch) &&& (28672 : Int32)))])) _
    exact kk
  obtain ⟨T5, lo5, X5, N5, e5, pre5⟩ : ∃ (T' : State) (lo : List Loc), Stand p l e ({ frames := 1, cells := 0, slots := 0, locals := 15 } : Room) s m #[(.ref a), (.int ch)] below meth c T' lo 0 0 ∧ Fr n0 lo ∧ T'.heap = h0 ∧ ∀ tgt, Steps p.tables e below (T'.setTop (mkF m 22 #[.val (.ref a), .val (.int ch), .val (.int (atv clA ch))] [(.int (bI (((atv clA ch) &&& (28672 : Int32)) = (16384 : Int32))))])) tgt → Steps p.tables e below (s₁.setTop (entryFrame m #[(.ref a), (.int ch)] 3)) tgt := by
    by_cases hc14_4 : ((atv clA ch) &&& (28672 : Int32)) = (16384 : Int32)
    · skip
      refine ⟨T2, _, X2, N2, hh2, fun tgt kk => ?_⟩
      have kq6 : ((.int (bI (((atv clA ch) &&& (28672 : Int32)) = (16384 : Int32)))) : Value) = (.int (1 : Int32)) := (congrArg Value.int (bI_t hc14_4))
      rw [kq6] at kk
      refine pre3 tgt ?_
      refine XS.icmpNo X2.here hx rfl (hb hby d16_14) rfl (XT.ii_ne_f hc14_4) ?_
      show Steps p.tables e below (T2.setTop (mkF m 17 #[.val (.ref a), .val (.int ch), .val (.int (atv clA ch))] [])) _
      refine XS.iconst X2.here hx rfl (hb hby d16_17) ?_
      show Steps p.tables e below (T2.setTop (mkF m 18 #[.val (.ref a), .val (.int ch), .val (.int (atv clA ch))] [(.int (1 : Int32))])) _
      refine XS.goto X2.here hx rfl (pc0 := 18) (pc' := 22) rfl (hb hby d16_18) (by decide) (by decide) ?_
      show Steps p.tables e below (T2.setTop (mkF m 22 #[.val (.ref a), .val (.int ch), .val (.int (atv clA ch))] [(.int (1 : Int32))])) _
      exact kk
    · skip
      refine ⟨T2, _, X2, N2, hh2, fun tgt kk => ?_⟩
      have kq7 : ((.int (bI (((atv clA ch) &&& (28672 : Int32)) = (16384 : Int32)))) : Value) = (.int (0 : Int32)) := (congrArg Value.int (bI_f hc14_4))
      rw [kq7] at kk
      refine pre3 tgt ?_
      refine XS.icmpYes X2.here hx rfl (pc0 := 14) (pc' := 21) rfl (hb hby d16_14) rfl (XT.ii_ne_t hc14_4) (by decide) (by decide) ?_
      show Steps p.tables e below (T2.setTop (mkF m 21 #[.val (.ref a), .val (.int ch), .val (.int (atv clA ch))] [])) _
      refine XS.iconst X2.here hx rfl (hb hby d16_21) ?_
      show Steps p.tables e below (T2.setTop (mkF m 22 #[.val (.ref a), .val (.int ch), .val (.int (atv clA ch))] [(.int (0 : Int32))])) _
      exact kk
  obtain ⟨fs, hr, hrun, hended, hW, hsame⟩ := X5.leave (v := some (.int (nar .boolean (bI (((atv clA ch) &&& (28672 : Int32)) = (16384 : Int32)))))) (fun h => by rw [Bd.returns] at h; cases h)
  refine ⟨_, _, pre5 _ ?_, hrun, hended, _, _, rfl, ?_, ⟨_, rfl⟩, hW, hsame.mono (by decide) (by decide)⟩
  · skip
    exact retN X5 hx (t := .boolean) Bd.returns (by simp) (hb hby d16_22) hr
  · show QW Z a ch aA clA h0 n0 _ T5.heap _
    rw [e5]
    exact ⟨bI_ret, N5, rfl⟩
theorem d15_0 : decode jdk_43_method_44_code 0 = .ok (.aload_n 0, 1) := by decide +kernel
theorem d15_1 : decode jdk_43_method_44_code 1 = .ok (.iload_n 1, 1) := by decide +kernel
theorem d15_2 : decode jdk_43_method_44_code 2 = .ok (.baload, 1) := by decide +kernel
theorem d15_3 : decode jdk_43_method_44_code 3 = .ok (.sipush 255, 3) := by decide +kernel
theorem d15_6 : decode jdk_43_method_44_code 6 = .ok (.iand, 1) := by decide +kernel
theorem d15_7 : decode jdk_43_method_44_code 7 = .ok (.i2c, 1) := by decide +kernel
theorem d15_8 : decode jdk_43_method_44_code 8 = .ok (.ireturn, 1) := by decide +kernel
theorem pn_15 : plainName "java/lang/StringLatin1" = true := by first | (simp [plainName, overriddenIn]; done) | decide +kernel
theorem ef_rmGC0 (m : MethodId) (x0 : Addr) (x1 : Int32) : entryFrame m #[(.ref x0), (.int x1)] 2 = mkF m 0 #[.val (.ref x0), .val (.int x1)] [] := by first | (simp [entryFrame, mkF, argsToLocals, Value.category]; done) | rfl
def QGC0 (Z : State) (t : Addr) (k : ClassId) (c0 : Int32) (h0 : Heap) (n0 : Nat) (v : Option Value) (h : Heap) (L : List Loc) : Prop := v = some (.int c0) ∧ Fr n0 L ∧ h = h0
set_option maxRecDepth 65536 in
set_option maxHeartbeats 40000000 in
theorem rmGC0 (l : Launch) (Z : State) (a0 : Array Value) (hw : ∀ d ∈ tables_1, d.before a0 Z = true) (ws : List Jvm.Cond) (t : Addr) (k : ClassId) (c0 : Int32) (h0 : Heap) (n0 : Nat) (Z0 : n0 ≤ h0.size) (V_t : Arv Z h0 t k .byte (2 : Int32) ((([c0, (72 : Int32)] : List Int32).map (fun c => c.toInt8.toInt32)).map Value.int) (.int (0 : Int32))) (hp0 : ¬ c0 < 0 ∧ ¬ (255 : Int32) < c0) :
    MetFree l (⟨"java/lang/StringLatin1", "getChar", "([BI)C"⟩ : MethodName) (head1 (Jvm.Cond.code (⟨"java/lang/StringLatin1", "getChar", "([BI)C"⟩ : MethodName) jdk_43_method_44_code 2 (some .char) :: ws) ({ frames := 0, cells := 0, slots := 0, locals := 0 } : Room)) (fun ar UU => ar = #[(.ref t), (.int (0 : Int32))] ∧ Z.Warmed39 UU.vm ∧ UU.heap = h0) (fun _ _ _ _ _ => True) (fun _ UU oo UU' => ∃ vv LL, oo = .returned vv ∧ QGC0 Z t k c0 h0 n0 vv UU'.heap LL ∧ FrameEnd UU oo UU' LL ({ frames := 0, cells := 0, slots := 0, locals := 0 } : Room).cells ({ frames := 0, cells := 0, slots := 0, locals := 0 } : Room).slots) := by
  refine MetFree.of_bodySF (plainFor_of_name pn_15) hisR ?_
  intro p e s m args below meth c s₁ Bd hml0 hP hK
  obtain ⟨rfl, hZ, hh⟩ := hP
  have hx := Bd.exec
  have hby := Bd.bytes
  have hml : c.maxLocals = 2 := hml0
  have hown : s.vm.findClass "java/lang/StringLatin1" = some m.cls := findClass_of_methodNamed Bd.named
  have hnm := (name_of_methodNamed Bd.named Bd.method).1
  have X0 : Stand p l e ({ frames := 0, cells := 0, slots := 0, locals := 0 } : Room) s m #[(.ref t), (.int (0 : Int32))] below meth c s₁ [] 0 0 := Stand.of_body Bd
  have e0 : s₁.heap = h0 := by rw [← hh, Bd.state]; rfl
  have N0 := Fr.nil n0
  have KC0 : Keep h0 h0 [] := Keep.refl h0 []
  have pre0 : ∀ tgt, Steps p.tables e below (s₁.setTop (mkF m 0 #[.val (.ref t), .val (.int (0 : Int32))] [])) tgt → Steps p.tables e below (s₁.setTop (entryFrame m #[(.ref t), (.int (0 : Int32))] 2)) tgt := fun tgt kk => castTop (ef_rmGC0 m (t) ((0 : Int32))) kk
  have pre1 : ∀ tgt, Steps p.tables e below (s₁.setTop (mkF m 2 #[.val (.ref t), .val (.int (0 : Int32))] [(.int (0 : Int32)), (.ref t)])) tgt → Steps p.tables e below (s₁.setTop (entryFrame m #[(.ref t), (.int (0 : Int32))] 2)) tgt := by
    intro tgt kk
    refine pre0 tgt ?_
    refine XS.aloadN X0.here hx rfl (hb hby d15_0) rfl rfl ?_
    show Steps p.tables e below (s₁.setTop (mkF m 1 #[.val (.ref t), .val (.int (0 : Int32))] [(.ref t)])) _
    refine XS.iloadN X0.here hx rfl (hb hby d15_1) rfl ?_
    show Steps p.tables e below (s₁.setTop (mkF m 2 #[.val (.ref t), .val (.int (0 : Int32))] [(.int (0 : Int32)), (.ref t)])) _
    exact kk
  obtain ⟨cl2, Ar2, aq2, aS2, aN2, aH2, aG2⟩ := id V_t
  have hin3 : ¬ ((0 : Int32) < 0 ∨ cl2.slots.size ≤ ((0 : Int32)).toNatClampNeg) := inb_of aS2 ⟨by decide, by decide⟩
  have hat3 : cl2.slots[((0 : Int32)).toNatClampNeg]? = some (.int c0.toInt8.toInt32) := Has.at aH2 hin3 rfl
  obtain ⟨fs, hr, hrun, hended, hW, hsame⟩ := X0.leave (v := some (.int (nar .char (c0.toInt8.toInt32 &&& (255 : Int32)).toUInt32.toUInt16.toUInt32.toInt32))) (fun h => by rw [Bd.returns] at h; cases h)
  refine ⟨_, _, pre1 _ ?_, hrun, hended, _, _, rfl, ?_, ⟨_, rfl⟩, hW, hsame.mono (by decide) (by decide)⟩
  · skip
    refine X0.baloadBytes hx (j := (0 : Int32)) (v := (.int c0.toInt8.toInt32)) (by rw [e0]; exact Ar2.1) (State.isArrayOf_alike hZ.alike Ar2.2.1) Ar2.2.2 hin3 hat3 (g := (mkF m 2 #[.val (.ref t), .val (.int (0 : Int32))] [(.int (0 : Int32)), (.ref t)])) rfl rfl (hb hby d15_2) _ ?_
    show Steps p.tables e below (s₁.setTop (mkF m 3 #[.val (.ref t), .val (.int (0 : Int32))] [(.int c0.toInt8.toInt32)])) _
    refine XS.sipush X0.here hx rfl (hb hby d15_3) ?_
    show Steps p.tables e below (s₁.setTop (mkF m 6 #[.val (.ref t), .val (.int (0 : Int32))] [(.int (255 : Int32)), (.int c0.toInt8.toInt32)])) _
    refine XS.iand X0.here hx rfl (hb hby d15_6) rfl ?_
    show Steps p.tables e below (s₁.setTop (mkF m 7 #[.val (.ref t), .val (.int (0 : Int32))] [(.int (c0.toInt8.toInt32 &&& (255 : Int32)))])) _
    refine XS.i2c X0.here hx rfl (hb hby d15_7) rfl ?_
    show Steps p.tables e below (s₁.setTop (mkF m 8 #[.val (.ref t), .val (.int (0 : Int32))] [(.int (c0.toInt8.toInt32 &&& (255 : Int32)).toUInt32.toUInt16.toUInt32.toInt32)])) _
    exact retN X0 hx (t := .char) Bd.returns (by simp) (hb hby d15_8) hr
  · show QGC0 Z t k c0 h0 n0 _ s₁.heap _
    rw [e0]
    exact ⟨by rw [own_char hp0], N0, rfl⟩
theorem ef_rmGC1 (m : MethodId) (x0 : Addr) (x1 : Int32) : entryFrame m #[(.ref x0), (.int x1)] 2 = mkF m 0 #[.val (.ref x0), .val (.int x1)] [] := by first | (simp [entryFrame, mkF, argsToLocals, Value.category]; done) | rfl
def QGC1 (Z : State) (t : Addr) (k : ClassId) (c0 : Int32) (h0 : Heap) (n0 : Nat) (v : Option Value) (h : Heap) (L : List Loc) : Prop := v = some (.int (72 : Int32)) ∧ Fr n0 L ∧ h = h0
set_option maxRecDepth 65536 in
set_option maxHeartbeats 40000000 in
theorem rmGC1 (l : Launch) (Z : State) (a0 : Array Value) (hw : ∀ d ∈ tables_1, d.before a0 Z = true) (ws : List Jvm.Cond) (t : Addr) (k : ClassId) (c0 : Int32) (h0 : Heap) (n0 : Nat) (Z0 : n0 ≤ h0.size) (V_t : Arv Z h0 t k .byte (2 : Int32) ((([c0, (72 : Int32)] : List Int32).map (fun c => c.toInt8.toInt32)).map Value.int) (.int (0 : Int32))) (hp0 : ¬ c0 < 0 ∧ ¬ (255 : Int32) < c0) :
    MetFree l (⟨"java/lang/StringLatin1", "getChar", "([BI)C"⟩ : MethodName) (head1 (Jvm.Cond.code (⟨"java/lang/StringLatin1", "getChar", "([BI)C"⟩ : MethodName) jdk_43_method_44_code 2 (some .char) :: ws) ({ frames := 0, cells := 0, slots := 0, locals := 0 } : Room)) (fun ar UU => ar = #[(.ref t), (.int (1 : Int32))] ∧ Z.Warmed39 UU.vm ∧ UU.heap = h0) (fun _ _ _ _ _ => True) (fun _ UU oo UU' => ∃ vv LL, oo = .returned vv ∧ QGC1 Z t k c0 h0 n0 vv UU'.heap LL ∧ FrameEnd UU oo UU' LL ({ frames := 0, cells := 0, slots := 0, locals := 0 } : Room).cells ({ frames := 0, cells := 0, slots := 0, locals := 0 } : Room).slots) := by
  refine MetFree.of_bodySF (plainFor_of_name pn_15) hisR ?_
  intro p e s m args below meth c s₁ Bd hml0 hP hK
  obtain ⟨rfl, hZ, hh⟩ := hP
  have hx := Bd.exec
  have hby := Bd.bytes
  have hml : c.maxLocals = 2 := hml0
  have hown : s.vm.findClass "java/lang/StringLatin1" = some m.cls := findClass_of_methodNamed Bd.named
  have hnm := (name_of_methodNamed Bd.named Bd.method).1
  have X0 : Stand p l e ({ frames := 0, cells := 0, slots := 0, locals := 0 } : Room) s m #[(.ref t), (.int (1 : Int32))] below meth c s₁ [] 0 0 := Stand.of_body Bd
  have e0 : s₁.heap = h0 := by rw [← hh, Bd.state]; rfl
  have N0 := Fr.nil n0
  have KC0 : Keep h0 h0 [] := Keep.refl h0 []
  have pre0 : ∀ tgt, Steps p.tables e below (s₁.setTop (mkF m 0 #[.val (.ref t), .val (.int (1 : Int32))] [])) tgt → Steps p.tables e below (s₁.setTop (entryFrame m #[(.ref t), (.int (1 : Int32))] 2)) tgt := fun tgt kk => castTop (ef_rmGC1 m (t) ((1 : Int32))) kk
  have pre1 : ∀ tgt, Steps p.tables e below (s₁.setTop (mkF m 2 #[.val (.ref t), .val (.int (1 : Int32))] [(.int (1 : Int32)), (.ref t)])) tgt → Steps p.tables e below (s₁.setTop (entryFrame m #[(.ref t), (.int (1 : Int32))] 2)) tgt := by
    intro tgt kk
    refine pre0 tgt ?_
    refine XS.aloadN X0.here hx rfl (hb hby d15_0) rfl rfl ?_
    show Steps p.tables e below (s₁.setTop (mkF m 1 #[.val (.ref t), .val (.int (1 : Int32))] [(.ref t)])) _
    refine XS.iloadN X0.here hx rfl (hb hby d15_1) rfl ?_
    show Steps p.tables e below (s₁.setTop (mkF m 2 #[.val (.ref t), .val (.int (1 : Int32))] [(.int (1 : Int32)), (.ref t)])) _
    exact kk
  obtain ⟨cl2, Ar2, aq2, aS2, aN2, aH2, aG2⟩ := id V_t
  have hin3 : ¬ ((1 : Int32) < 0 ∨ cl2.slots.size ≤ ((1 : Int32)).toNatClampNeg) := inb_of aS2 ⟨by decide, by decide⟩
  have hat3 : cl2.slots[((1 : Int32)).toNatClampNeg]? = some (.int (72 : Int32).toInt8.toInt32) := Has.at aH2 hin3 rfl
  obtain ⟨fs, hr, hrun, hended, hW, hsame⟩ := X0.leave (v := some (.int (nar .char ((72 : Int32).toInt8.toInt32 &&& (255 : Int32)).toUInt32.toUInt16.toUInt32.toInt32))) (fun h => by rw [Bd.returns] at h; cases h)
  refine ⟨_, _, pre1 _ ?_, hrun, hended, _, _, rfl, ?_, ⟨_, rfl⟩, hW, hsame.mono (by decide) (by decide)⟩
  · skip
    refine X0.baloadBytes hx (j := (1 : Int32)) (v := (.int (72 : Int32).toInt8.toInt32)) (by rw [e0]; exact Ar2.1) (State.isArrayOf_alike hZ.alike Ar2.2.1) Ar2.2.2 hin3 hat3 (g := (mkF m 2 #[.val (.ref t), .val (.int (1 : Int32))] [(.int (1 : Int32)), (.ref t)])) rfl rfl (hb hby d15_2) _ ?_
    show Steps p.tables e below (s₁.setTop (mkF m 3 #[.val (.ref t), .val (.int (1 : Int32))] [(.int (72 : Int32).toInt8.toInt32)])) _
    refine XS.sipush X0.here hx rfl (hb hby d15_3) ?_
    show Steps p.tables e below (s₁.setTop (mkF m 6 #[.val (.ref t), .val (.int (1 : Int32))] [(.int (255 : Int32)), (.int (72 : Int32).toInt8.toInt32)])) _
    refine XS.iand X0.here hx rfl (hb hby d15_6) rfl ?_
    show Steps p.tables e below (s₁.setTop (mkF m 7 #[.val (.ref t), .val (.int (1 : Int32))] [(.int ((72 : Int32).toInt8.toInt32 &&& (255 : Int32)))])) _
    refine XS.i2c X0.here hx rfl (hb hby d15_7) rfl ?_
    show Steps p.tables e below (s₁.setTop (mkF m 8 #[.val (.ref t), .val (.int (1 : Int32))] [(.int ((72 : Int32).toInt8.toInt32 &&& (255 : Int32)).toUInt32.toUInt16.toUInt32.toInt32)])) _
    exact retN X0 hx (t := .char) Bd.returns (by simp) (hb hby d15_8) hr
  · show QGC1 Z t k c0 h0 n0 _ s₁.heap _
    rw [e0]
    exact ⟨by rw [own_char (by decide)], N0, rfl⟩
theorem d14_0 : decode jdk_43_method_37_code 0 = .ok (.aload_n 0, 1) := by decide +kernel
theorem d14_1 : decode jdk_43_method_37_code 1 = .ok (.arraylength, 1) := by decide +kernel
theorem d14_2 : decode jdk_43_method_37_code 2 = .ok (.istore_n 1, 1) := by decide +kernel
theorem d14_3 : decode jdk_43_method_37_code 3 = .ok (.iconst 0, 1) := by decide +kernel
theorem d14_4 : decode jdk_43_method_37_code 4 = .ok (.istore_n 2, 1) := by decide +kernel
theorem d14_5 : decode jdk_43_method_37_code 5 = .ok (.iload_n 2, 1) := by decide +kernel
theorem d14_6 : decode jdk_43_method_37_code 6 = .ok (.iload_n 1, 1) := by decide +kernel
theorem d14_7 : decode jdk_43_method_37_code 7 = .ok (.if_icmp .ge 40, 3) := by decide +kernel
theorem d14_10 : decode jdk_43_method_37_code 10 = .ok (.aload_n 0, 1) := by decide +kernel
theorem d14_11 : decode jdk_43_method_37_code 11 = .ok (.iload_n 2, 1) := by decide +kernel
theorem d14_12 : decode jdk_43_method_37_code 12 = .ok (.invokestatic 50, 3) := by decide +kernel
theorem d14_15 : decode jdk_43_method_37_code 15 = .ok (.istore_n 3, 1) := by decide +kernel
theorem d14_16 : decode jdk_43_method_37_code 16 = .ok (.iload_n 3, 1) := by decide +kernel
theorem d14_17 : decode jdk_43_method_37_code 17 = .ok (.bipush 32, 2) := by decide +kernel
theorem d14_19 : decode jdk_43_method_37_code 19 = .ok (.if_icmp .eq 22, 3) := by decide +kernel
theorem d14_22 : decode jdk_43_method_37_code 22 = .ok (.iload_n 3, 1) := by decide +kernel
theorem d14_23 : decode jdk_43_method_37_code 23 = .ok (.bipush 9, 2) := by decide +kernel
theorem d14_25 : decode jdk_43_method_37_code 25 = .ok (.if_icmp .eq 16, 3) := by decide +kernel
theorem d14_28 : decode jdk_43_method_37_code 28 = .ok (.getstatic 66, 3) := by decide +kernel
theorem d14_31 : decode jdk_43_method_37_code 31 = .ok (.iload_n 3, 1) := by decide +kernel
theorem d14_32 : decode jdk_43_method_37_code 32 = .ok (.invokevirtual 211, 3) := by decide +kernel
theorem d14_35 : decode jdk_43_method_37_code 35 = .ok (.ifCond .ne 6, 3) := by decide +kernel
theorem d14_38 : decode jdk_43_method_37_code 38 = .ok (.goto 9, 3) := by decide +kernel
theorem d14_41 : decode jdk_43_method_37_code 41 = .ok (.iinc 2 1, 3) := by decide +kernel
theorem d14_44 : decode jdk_43_method_37_code 44 = .ok (.goto (-39), 3) := by decide +kernel
theorem d14_47 : decode jdk_43_method_37_code 47 = .ok (.iload_n 2, 1) := by decide +kernel
theorem d14_48 : decode jdk_43_method_37_code 48 = .ok (.ireturn, 1) := by decide +kernel
theorem pn_14 : plainName "java/lang/StringLatin1" = true := by first | (simp [plainName, overriddenIn]; done) | decide +kernel
theorem pd___BI_C : parseMethodDescriptor "([BI)C" = some ⟨[(.array .byte), .int], some .char⟩ := by decide +kernel
theorem pd__I_Z : parseMethodDescriptor "(I)Z" = some ⟨[.int], some .boolean⟩ := by decide +kernel
theorem ef_rmIx (m : MethodId) (x0 : Addr) : entryFrame m #[(.ref x0)] 4 = mkF m 0 #[.val (.ref x0), .unset, .unset, .unset] [] := by first | (simp [entryFrame, mkF, argsToLocals, Value.category]; done) | rfl
def QIx (Z : State) (t : Addr) (k : ClassId) (c0 : Int32) (aI : Addr) (aA : Addr) (clA : Cell) (h0 : Heap) (n0 : Nat) (v : Option Value) (h : Heap) (L : List Loc) : Prop := v = some (.int (bI ((c0 = (32 : Int32)) ∨ (c0 = (9 : Int32)) ∨ (((atv clA c0) &&& (28672 : Int32)) = (16384 : Int32))))) ∧ Fr n0 L ∧ h = h0
set_option maxRecDepth 65536 in
set_option maxHeartbeats 40000000 in
theorem rmIx (l : Launch) (Z : State) (a0 : Array Value) (hw : ∀ d ∈ tables_1, d.before a0 Z = true) (ws : List Jvm.Cond) (t : Addr) (k : ClassId) (c0 : Int32) (aI : Addr) (aA : Addr) (clA : Cell) (h0 : Heap) (n0 : Nat) (Z0 : n0 ≤ h0.size) (V_t : Arv Z h0 t k .byte (2 : Int32) ((([c0, (72 : Int32)] : List Int32).map (fun c => c.toInt8.toInt32)).map Value.int) (.int (0 : Int32))) (S_A : Sta Z h0 "java/lang/CharacterDataLatin1" "A" "[I" (.ref aA)) (S_I : Sta Z h0 "java/lang/CharacterDataLatin1" "instance" "Ljava/lang/CharacterDataLatin1;" (.ref aI)) (E_I : Exa Z h0 aI "java/lang/CharacterDataLatin1") (Tb : Tab Z h0 aA clA .int (256 : Int32)) (h72 : ¬ (((atv clA (72 : Int32)) &&& (28672 : Int32)) = (16384 : Int32))) (hp0 : ¬ c0 < 0 ∧ ¬ (255 : Int32) < c0) :
    MetFree l (⟨"java/lang/StringLatin1", "indexOfNonWhitespace", "([B)I"⟩ : MethodName) (head1 (Jvm.Cond.code (⟨"java/lang/StringLatin1", "indexOfNonWhitespace", "([B)I"⟩ : MethodName) jdk_43_method_37_code 4 (some .int) :: ws) ({ frames := 2, cells := 0, slots := 0, locals := 31 } : Room)) (fun ar UU => ar = #[(.ref t)] ∧ Z.Warmed39 UU.vm ∧ UU.heap = h0) (fun _ _ _ _ _ => True) (fun _ UU oo UU' => ∃ vv LL, oo = .returned vv ∧ QIx Z t k c0 aI aA clA h0 n0 vv UU'.heap LL ∧ FrameEnd UU oo UU' LL ({ frames := 2, cells := 0, slots := 0, locals := 31 } : Room).cells ({ frames := 2, cells := 0, slots := 0, locals := 31 } : Room).slots) := by
  refine MetFree.of_bodySF (plainFor_of_name pn_14) hisR ?_
  intro p e s m args below meth c s₁ Bd hml0 hP hK
  obtain ⟨rfl, hZ, hh⟩ := hP
  have hx := Bd.exec
  have hby := Bd.bytes
  have hml : c.maxLocals = 4 := hml0
  have hown : s.vm.findClass "java/lang/StringLatin1" = some m.cls := findClass_of_methodNamed Bd.named
  have hnm := (name_of_methodNamed Bd.named Bd.method).1
  have X0 : Stand p l e ({ frames := 2, cells := 0, slots := 0, locals := 31 } : Room) s m #[(.ref t)] below meth c s₁ [] 0 0 := Stand.of_body Bd
  have e0 : s₁.heap = h0 := by rw [← hh, Bd.state]; rfl
  have N0 := Fr.nil n0
  have KC0 : Keep h0 h0 [] := Keep.refl h0 []
  have pre0 : ∀ tgt, Steps p.tables e below (s₁.setTop (mkF m 0 #[.val (.ref t), .unset, .unset, .unset] [])) tgt → Steps p.tables e below (s₁.setTop (entryFrame m #[(.ref t)] 4)) tgt := fun tgt kk => castTop (ef_rmIx m (t)) kk
  have hr_0 : ¬ c0 < 0 ∧ c0 < (256 : Int32) := own_256 hp0
  have hr_1 : ¬ (72 : Int32) < 0 ∧ (72 : Int32) < (256 : Int32) := by decide
  have pre1 : ∀ tgt, Steps p.tables e below (s₁.setTop (mkF m 1 #[.val (.ref t), .unset, .unset, .unset] [(.ref t)])) tgt → Steps p.tables e below (s₁.setTop (entryFrame m #[(.ref t)] 4)) tgt := by
    intro tgt kk
    refine pre0 tgt ?_
    refine XS.aloadN X0.here hx rfl (hb hby d14_0) rfl rfl ?_
    show Steps p.tables e below (s₁.setTop (mkF m 1 #[.val (.ref t), .unset, .unset, .unset] [(.ref t)])) _
    exact kk
  obtain ⟨cl2, Ar2, aq2, aS2, aN2, aH2, aG2⟩ := id V_t
  have pre3 : ∀ tgt, Steps p.tables e below (s₁.setTop (mkF m 12 #[.val (.ref t), .val (.int (2 : Int32)), .val (.int (0 : Int32)), .unset] [(.int (0 : Int32)), (.ref t)])) tgt → Steps p.tables e below (s₁.setTop (entryFrame m #[(.ref t)] 4)) tgt := by
    intro tgt kk
    refine pre1 tgt ?_
    refine X0.arraylength hx (by rw [e0]; exact Ar2.1) (State.isArrayOf_alike hZ.alike Ar2.2.1) (g := (mkF m 1 #[.val (.ref t), .unset, .unset, .unset] [(.ref t)])) rfl rfl (hb hby d14_1) _ ?_
    rw [len_of aS2 aN2]
    show Steps p.tables e below (s₁.setTop (mkF m 2 #[.val (.ref t), .unset, .unset, .unset] [(.int (2 : Int32))])) _
    refine XS.istoreN X0.here hx rfl (hb hby d14_2) rfl (l' := #[.val (.ref t), .val (.int (2 : Int32)), .unset, .unset]) rfl ?_
    show Steps p.tables e below (s₁.setTop (mkF m 3 #[.val (.ref t), .val (.int (2 : Int32)), .unset, .unset] [])) _
    refine XS.iconst X0.here hx rfl (hb hby d14_3) ?_
    show Steps p.tables e below (s₁.setTop (mkF m 4 #[.val (.ref t), .val (.int (2 : Int32)), .unset, .unset] [(.int (0 : Int32))])) _
    refine XS.istoreN X0.here hx rfl (hb hby d14_4) rfl (l' := #[.val (.ref t), .val (.int (2 : Int32)), .val (.int (0 : Int32)), .unset]) rfl ?_
    show Steps p.tables e below (s₁.setTop (mkF m 5 #[.val (.ref t), .val (.int (2 : Int32)), .val (.int (0 : Int32)), .unset] [])) _
    refine XS.iloadN X0.here hx rfl (hb hby d14_5) rfl ?_
    show Steps p.tables e below (s₁.setTop (mkF m 6 #[.val (.ref t), .val (.int (2 : Int32)), .val (.int (0 : Int32)), .unset] [(.int (0 : Int32))])) _
    refine XS.iloadN X0.here hx rfl (hb hby d14_6) rfl ?_
    show Steps p.tables e below (s₁.setTop (mkF m 7 #[.val (.ref t), .val (.int (2 : Int32)), .val (.int (0 : Int32)), .unset] [(.int (2 : Int32)), (.int (0 : Int32))])) _
    refine XS.icmpNo X0.here hx rfl (hb hby d14_7) rfl (XT.ii_ge_f (by decide)) ?_
    show Steps p.tables e below (s₁.setTop (mkF m 10 #[.val (.ref t), .val (.int (2 : Int32)), .val (.int (0 : Int32)), .unset] [])) _
    refine XS.aloadN X0.here hx rfl (hb hby d14_10) rfl rfl ?_
    show Steps p.tables e below (s₁.setTop (mkF m 11 #[.val (.ref t), .val (.int (2 : Int32)), .val (.int (0 : Int32)), .unset] [(.ref t)])) _
    refine XS.iloadN X0.here hx rfl (hb hby d14_11) rfl ?_
    show Steps p.tables e below (s₁.setTop (mkF m 12 #[.val (.ref t), .val (.int (2 : Int32)), .val (.int (0 : Int32)), .unset] [(.int (0 : Int32)), (.ref t)])) _
    exact kk
  obtain ⟨_, _, ⟨T4, L4, k4, n4⟩, -, X4, ⟨Lc4, hQ4, l4, y4, z4⟩, st4⟩ := Jvm.LawKit.callS X0 hx (y := (⟨"java/lang/StringLatin1", "getChar", "([BI)C"⟩ : MethodName)) hown (mvT hZ (hw _ (List.mem_of_getElem? (i := 67) rfl))) (mvT hZ (hw _ (List.mem_of_getElem? (i := 68) rfl))) (mvT hZ (hw _ (List.mem_of_getElem? (i := 65) rfl))) (mvT hZ (hw _ (List.mem_of_getElem? (i := 69) rfl))) (by decide) (backOf (W := 0) (rmGC0 l Z a0 hw [] t k c0 h0 n0 Z0 V_t hp0) hZ (hw _ (List.mem_of_getElem? (i := 69) rfl)) (hw _ (List.mem_of_getElem? (i := 65) rfl)) (by decide) (by decide)) (g := (mkF m 12 #[.val (.ref t), .val (.int (2 : Int32)), .val (.int (0 : Int32)), .unset] [(.int (0 : Int32)), (.ref t)])) rfl (by rw [hml]; rfl) (argsL := [(.ref t), (.int (0 : Int32))]) (rest := []) (lenOf pd___BI_C rfl) rfl (by show 2 * 0 + _ ≤ _; exact Nat.le_of_eq rfl) (hb hby d14_12) (fun _ _ => ⟨rfl, e0, (by decide : 0 + 0 ≤ _), (by decide : 0 + 0 ≤ _)⟩)
  dsimp only [Pt.U, Pt.locs, Pt.cells, Pt.slots] at X4 l4 y4 z4 st4 hQ4
  subst l4 y4 z4
  obtain ⟨rfl, N4q, hh4⟩ := hQ4
  have N4 := Fr.app N0 N4q
  have pre5 : ∀ tgt, Steps p.tables e below (T4.setTop (mkF m 19 #[.val (.ref t), .val (.int (2 : Int32)), .val (.int (0 : Int32)), .val (.int c0)] [(.int (32 : Int32)), (.int c0)])) tgt → Steps p.tables e below (s₁.setTop (entryFrame m #[(.ref t)] 4)) tgt := by
    intro tgt kk
    refine pre3 tgt ?_
    refine st4 _ ?_
    show Steps p.tables e below (T4.setTop (mkF m 15 #[.val (.ref t), .val (.int (2 : Int32)), .val (.int (0 : Int32)), .unset] [(.int c0)])) _
    refine XS.istoreN X4.here hx rfl (hb hby d14_15) rfl (l' := #[.val (.ref t), .val (.int (2 : Int32)), .val (.int (0 : Int32)), .val (.int c0)]) rfl ?_
    show Steps p.tables e below (T4.setTop (mkF m 16 #[.val (.ref t), .val (.int (2 : Int32)), .val (.int (0 : Int32)), .val (.int c0)] [])) _
    refine XS.iloadN X4.here hx rfl (hb hby d14_16) rfl ?_
    show Steps p.tables e below (T4.setTop (mkF m 17 #[.val (.ref t), .val (.int (2 : Int32)), .val (.int (0 : Int32)), .val (.int c0)] [(.int c0)])) _
    refine XS.bipush X4.here hx rfl (hb hby d14_17) ?_
    show Steps p.tables e below (T4.setTop (mkF m 19 #[.val (.ref t), .val (.int (2 : Int32)), .val (.int (0 : Int32)), .val (.int c0)] [(.int (32 : Int32)), (.int c0)])) _
    exact kk
  by_cases hc19_6 : c0 = (32 : Int32)
  · skip
    have pre7 : ∀ tgt, Steps p.tables e below (T4.setTop (mkF m 12 #[.val (.ref t), .val (.int (2 : Int32)), .val (.int (1 : Int32)), .val (.int c0)] [(.int (1 : Int32)), (.ref t)])) tgt → Steps p.tables e below (s₁.setTop (entryFrame m #[(.ref t)] 4)) tgt := by
      intro tgt kk
      refine pre5 tgt ?_
      refine XS.icmpYes X4.here hx rfl (pc0 := 19) (pc' := 41) rfl (hb hby d14_19) rfl (XT.ii_eq_t hc19_6) (by decide) (by decide) ?_
      show Steps p.tables e below (T4.setTop (mkF m 41 #[.val (.ref t), .val (.int (2 : Int32)), .val (.int (0 : Int32)), .val (.int c0)] [])) _
      refine XS.iinc X4.here hx rfl (hb hby d14_41) rfl (l' := #[.val (.ref t), .val (.int (2 : Int32)), .val (.int (1 : Int32)), .val (.int c0)]) rfl ?_
      show Steps p.tables e below (T4.setTop (mkF m 44 #[.val (.ref t), .val (.int (2 : Int32)), .val (.int (1 : Int32)), .val (.int c0)] [])) _
      refine XS.goto X4.here hx rfl (pc0 := 44) (pc' := 5) rfl (hb hby d14_44) (by decide) (by decide) ?_
      show Steps p.tables e below (T4.setTop (mkF m 5 #[.val (.ref t), .val (.int (2 : Int32)), .val (.int (1 : Int32)), .val (.int c0)] [])) _
      refine XS.iloadN X4.here hx rfl (hb hby d14_5) rfl ?_
      show Steps p.tables e below (T4.setTop (mkF m 6 #[.val (.ref t), .val (.int (2 : Int32)), .val (.int (1 : Int32)), .val (.int c0)] [(.int (1 : Int32))])) _
      refine XS.iloadN X4.here hx rfl (hb hby d14_6) rfl ?_
      show Steps p.tables e below (T4.setTop (mkF m 7 #[.val (.ref t), .val (.int (2 : Int32)), .val (.int (1 : Int32)), .val (.int c0)] [(.int (2 : Int32)), (.int (1 : Int32))])) _
      refine XS.icmpNo X4.here hx rfl (hb hby d14_7) rfl (XT.ii_ge_f (by decide)) ?_
      show Steps p.tables e below (T4.setTop (mkF m 10 #[.val (.ref t), .val (.int (2 : Int32)), .val (.int (1 : Int32)), .val (.int c0)] [])) _
      refine XS.aloadN X4.here hx rfl (hb hby d14_10) rfl rfl ?_
      show Steps p.tables e below (T4.setTop (mkF m 11 #[.val (.ref t), .val (.int (2 : Int32)), .val (.int (1 : Int32)), .val (.int c0)] [(.ref t)])) _
      refine XS.iloadN X4.here hx rfl (hb hby d14_11) rfl ?_
      show Steps p.tables e below (T4.setTop (mkF m 12 #[.val (.ref t), .val (.int (2 : Int32)), .val (.int (1 : Int32)), .val (.int c0)] [(.int (1 : Int32)), (.ref t)])) _
      exact kk
    obtain ⟨_, _, ⟨T8, L8, k8, n8⟩, -, X8, ⟨Lc8, hQ8, l8, y8, z8⟩, st8⟩ := Jvm.LawKit.callS X4 hx (y := (⟨"java/lang/StringLatin1", "getChar", "([BI)C"⟩ : MethodName)) hown (mvT hZ (hw _ (List.mem_of_getElem? (i := 67) rfl))) (mvT hZ (hw _ (List.mem_of_getElem? (i := 68) rfl))) (mvT hZ (hw _ (List.mem_of_getElem? (i := 65) rfl))) (mvT hZ (hw _ (List.mem_of_getElem? (i := 69) rfl))) (by decide) (backOf (W := 0) (rmGC1 l Z a0 hw [] t k c0 h0 n0 Z0 V_t hp0) hZ (hw _ (List.mem_of_getElem? (i := 69) rfl)) (hw _ (List.mem_of_getElem? (i := 65) rfl)) (by decide) (by decide)) (g := (mkF m 12 #[.val (.ref t), .val (.int (2 : Int32)), .val (.int (1 : Int32)), .val (.int c0)] [(.int (1 : Int32)), (.ref t)])) rfl (by rw [hml]; rfl) (argsL := [(.ref t), (.int (1 : Int32))]) (rest := []) (lenOf pd___BI_C rfl) rfl (by show 2 * 0 + _ ≤ _; exact Nat.le_of_eq rfl) (hb hby d14_12) (fun _ _ => ⟨rfl, hh4, (by decide : 0 + 0 ≤ _), (by decide : 0 + 0 ≤ _)⟩)
    dsimp only [Pt.U, Pt.locs, Pt.cells, Pt.slots] at X8 l8 y8 z8 st8 hQ8
    subst l8 y8 z8
    obtain ⟨rfl, N8q, hh8⟩ := hQ8
    have N8 := Fr.app N4 N8q
    have pre9 : ∀ tgt, Steps p.tables e below (T8.setTop (mkF m 28 #[.val (.ref t), .val (.int (2 : Int32)), .val (.int (1 : Int32)), .val (.int (72 : Int32))] [])) tgt → Steps p.tables e below (s₁.setTop (entryFrame m #[(.ref t)] 4)) tgt := by
      intro tgt kk
      refine pre7 tgt ?_
      refine st8 _ ?_
      show Steps p.tables e below (T8.setTop (mkF m 15 #[.val (.ref t), .val (.int (2 : Int32)), .val (.int (1 : Int32)), .val (.int c0)] [(.int (72 : Int32))])) _
      refine XS.istoreN X8.here hx rfl (hb hby d14_15) rfl (l' := #[.val (.ref t), .val (.int (2 : Int32)), .val (.int (1 : Int32)), .val (.int (72 : Int32))]) rfl ?_
      show Steps p.tables e below (T8.setTop (mkF m 16 #[.val (.ref t), .val (.int (2 : Int32)), .val (.int (1 : Int32)), .val (.int (72 : Int32))] [])) _
      refine XS.iloadN X8.here hx rfl (hb hby d14_16) rfl ?_
      show Steps p.tables e below (T8.setTop (mkF m 17 #[.val (.ref t), .val (.int (2 : Int32)), .val (.int (1 : Int32)), .val (.int (72 : Int32))] [(.int (72 : Int32))])) _
      refine XS.bipush X8.here hx rfl (hb hby d14_17) ?_
      show Steps p.tables e below (T8.setTop (mkF m 19 #[.val (.ref t), .val (.int (2 : Int32)), .val (.int (1 : Int32)), .val (.int (72 : Int32))] [(.int (32 : Int32)), (.int (72 : Int32))])) _
      refine XS.icmpNo X8.here hx rfl (hb hby d14_19) rfl (XT.ii_eq_f (by decide)) ?_
      show Steps p.tables e below (T8.setTop (mkF m 22 #[.val (.ref t), .val (.int (2 : Int32)), .val (.int (1 : Int32)), .val (.int (72 : Int32))] [])) _
      refine XS.iloadN X8.here hx rfl (hb hby d14_22) rfl ?_
      show Steps p.tables e below (T8.setTop (mkF m 23 #[.val (.ref t), .val (.int (2 : Int32)), .val (.int (1 : Int32)), .val (.int (72 : Int32))] [(.int (72 : Int32))])) _
      refine XS.bipush X8.here hx rfl (hb hby d14_23) ?_
      show Steps p.tables e below (T8.setTop (mkF m 25 #[.val (.ref t), .val (.int (2 : Int32)), .val (.int (1 : Int32)), .val (.int (72 : Int32))] [(.int (9 : Int32)), (.int (72 : Int32))])) _
      refine XS.icmpNo X8.here hx rfl (hb hby d14_25) rfl (XT.ii_eq_f (by decide)) ?_
      show Steps p.tables e below (T8.setTop (mkF m 28 #[.val (.ref t), .val (.int (2 : Int32)), .val (.int (1 : Int32)), .val (.int (72 : Int32))] [])) _
      exact kk
    obtain ⟨T10, X10, e10, st10⟩ := getS X8 hx hZ hown (host := "") (hw _ (List.mem_of_getElem? (i := 70) rfl)) Via.refl hh8 S_I (g := (mkF m 28 #[.val (.ref t), .val (.int (2 : Int32)), .val (.int (1 : Int32)), .val (.int (72 : Int32))] [])) rfl (hb hby d14_28)
    have pre11 : ∀ tgt, Steps p.tables e below (T10.setTop (mkF m 32 #[.val (.ref t), .val (.int (2 : Int32)), .val (.int (1 : Int32)), .val (.int (72 : Int32))] [(.int (72 : Int32)), (.ref aI)])) tgt → Steps p.tables e below (s₁.setTop (entryFrame m #[(.ref t)] 4)) tgt := by
      intro tgt kk
      refine pre9 tgt ?_
      refine st10 _ ?_
      show Steps p.tables e below (T10.setTop (mkF m 31 #[.val (.ref t), .val (.int (2 : Int32)), .val (.int (1 : Int32)), .val (.int (72 : Int32))] [(.ref aI)])) _
      refine XS.iloadN X10.here hx rfl (hb hby d14_31) rfl ?_
      show Steps p.tables e below (T10.setTop (mkF m 32 #[.val (.ref t), .val (.int (2 : Int32)), .val (.int (1 : Int32)), .val (.int (72 : Int32))] [(.int (72 : Int32)), (.ref aI)])) _
      exact kk
    obtain ⟨cq12, kq12, q12a, q12b, q12c⟩ := isOf hZ e10 E_I
    obtain ⟨_, _, ⟨T12, L12, k12, n12⟩, -, X12, ⟨Lc12, hQ12, l12, y12, z12⟩, st12⟩ := X10.virtualBack hx (y := (⟨"java/lang/CharacterDataLatin1", "isWhitespace", "(I)Z"⟩ : MethodName)) (z := (⟨"java/lang/CharacterDataLatin1", "isWhitespace", "(I)Z"⟩ : MethodName)) hown (mvT hZ (hw _ (List.mem_of_getElem? (i := 72) rfl))) (mvT hZ (hw _ (List.mem_of_getElem? (i := 73) rfl))) (notFace_of_selects (args := #[]) (mvT hZ (hw _ (List.mem_of_getElem? (i := 75) rfl)))) (mvT hZ (hw _ (List.mem_of_getElem? (i := 75) rfl))) (mvT hZ (hw _ (List.mem_of_getElem? (i := 74) rfl))) (by decide) (backOf (W := 0) (rmW l Z a0 hw [] aI ((72 : Int32)) aA clA h0 n0 Z0 E_I S_A Tb hr_1) hZ (hw _ (List.mem_of_getElem? (i := 76) rfl)) (hw _ (List.mem_of_getElem? (i := 71) rfl)) (by decide) (by decide)) q12a q12c (g := (mkF m 32 #[.val (.ref t), .val (.int (2 : Int32)), .val (.int (1 : Int32)), .val (.int (72 : Int32))] [(.int (72 : Int32)), (.ref aI)])) rfl (by rw [hml]; rfl) (Steps.refl _) (argsL := [(.int (72 : Int32))]) (rest := []) (lenOf pd__I_Z rfl) rfl (by show 2 * 0 + _ ≤ _; exact Nat.le_of_eq rfl) (hb hby d14_32) (fun _ _ => ⟨rfl, e10, (by decide : 0 + 0 ≤ _), (by decide : 0 + 0 ≤ _)⟩)
    dsimp only [Pt.U, Pt.locs, Pt.cells, Pt.slots] at X12 l12 y12 z12 st12 hQ12
    subst l12 y12 z12
    obtain ⟨rfl, N12q, hh12⟩ := hQ12
    have N12 := Fr.app N8 N12q
    have hk13 : ¬ (((atv clA (72 : Int32)) &&& (28672 : Int32)) = (16384 : Int32)) := h72
    obtain ⟨fs, hr, hrun, hended, hW, hsame⟩ := X12.leave (v := some (.int (1 : Int32))) (fun h => by rw [Bd.returns] at h; cases h)
    refine ⟨_, _, pre11 _ ?_, hrun, hended, _, _, rfl, ?_, ⟨_, rfl⟩, hW, hsame.mono (by decide) (by decide)⟩
    · skip
      refine st12.trans ?_
      show Steps p.tables e below (T12.setTop (mkF m 35 #[.val (.ref t), .val (.int (2 : Int32)), .val (.int (1 : Int32)), .val (.int (72 : Int32))] [(.int (bI (((atv clA (72 : Int32)) &&& (28672 : Int32)) = (16384 : Int32))))])) _
      refine XS.ifNo X12.here hx rfl (hb hby d14_35) rfl (bB_ne_f hk13) ?_
      show Steps p.tables e below (T12.setTop (mkF m 38 #[.val (.ref t), .val (.int (2 : Int32)), .val (.int (1 : Int32)), .val (.int (72 : Int32))] [])) _
      refine XS.goto X12.here hx rfl (pc0 := 38) (pc' := 47) rfl (hb hby d14_38) (by decide) (by decide) ?_
      show Steps p.tables e below (T12.setTop (mkF m 47 #[.val (.ref t), .val (.int (2 : Int32)), .val (.int (1 : Int32)), .val (.int (72 : Int32))] [])) _
      refine XS.iloadN X12.here hx rfl (hb hby d14_47) rfl ?_
      show Steps p.tables e below (T12.setTop (mkF m 48 #[.val (.ref t), .val (.int (2 : Int32)), .val (.int (1 : Int32)), .val (.int (72 : Int32))] [(.int (1 : Int32))])) _
      exact retI X12 hx Bd.returns (hb hby d14_48) hr
    · show QIx Z t k c0 aI aA clA h0 n0 _ T12.heap _
      rw [hh12]
      exact ⟨by simp [bI, hc19_6], N12, rfl⟩
  · skip
    have pre14 : ∀ tgt, Steps p.tables e below (T4.setTop (mkF m 25 #[.val (.ref t), .val (.int (2 : Int32)), .val (.int (0 : Int32)), .val (.int c0)] [(.int (9 : Int32)), (.int c0)])) tgt → Steps p.tables e below (s₁.setTop (entryFrame m #[(.ref t)] 4)) tgt := by
      intro tgt kk
      refine pre5 tgt ?_
      refine XS.icmpNo X4.here hx rfl (hb hby d14_19) rfl (XT.ii_eq_f hc19_6) ?_
      show Steps p.tables e below (T4.setTop (mkF m 22 #[.val (.ref t), .val (.int (2 : Int32)), .val (.int (0 : Int32)), .val (.int c0)] [])) _
      refine XS.iloadN X4.here hx rfl (hb hby d14_22) rfl ?_
      show Steps p.tables e below (T4.setTop (mkF m 23 #[.val (.ref t), .val (.int (2 : Int32)), .val (.int (0 : Int32)), .val (.int c0)] [(.int c0)])) _
      refine XS.bipush X4.here hx rfl (hb hby d14_23) ?_
      show Steps p.tables e below (T4.setTop (mkF m 25 #[.val (.ref t), .val (.int (2 : Int32)), .val (.int (0 : Int32)), .val (.int c0)] [(.int (9 : Int32)), (.int c0)])) _
      exact kk
    by_cases hc25_15 : c0 = (9 : Int32)
    · skip
      have pre16 : ∀ tgt, Steps p.tables e below (T4.setTop (mkF m 12 #[.val (.ref t), .val (.int (2 : Int32)), .val (.int (1 : Int32)), .val (.int c0)] [(.int (1 : Int32)), (.ref t)])) tgt → Steps p.tables e below (s₁.setTop (entryFrame m #[(.ref t)] 4)) tgt := by
        intro tgt kk
        refine pre14 tgt ?_
        refine XS.icmpYes X4.here hx rfl (pc0 := 25) (pc' := 41) rfl (hb hby d14_25) rfl (XT.ii_eq_t hc25_15) (by decide) (by decide) ?_
        show Steps p.tables e below (T4.setTop (mkF m 41 #[.val (.ref t), .val (.int (2 : Int32)), .val (.int (0 : Int32)), .val (.int c0)] [])) _
        refine XS.iinc X4.here hx rfl (hb hby d14_41) rfl (l' := #[.val (.ref t), .val (.int (2 : Int32)), .val (.int (1 : Int32)), .val (.int c0)]) rfl ?_
        show Steps p.tables e below (T4.setTop (mkF m 44 #[.val (.ref t), .val (.int (2 : Int32)), .val (.int (1 : Int32)), .val (.int c0)] [])) _
        refine XS.goto X4.here hx rfl (pc0 := 44) (pc' := 5) rfl (hb hby d14_44) (by decide) (by decide) ?_
        show Steps p.tables e below (T4.setTop (mkF m 5 #[.val (.ref t), .val (.int (2 : Int32)), .val (.int (1 : Int32)), .val (.int c0)] [])) _
        refine XS.iloadN X4.here hx rfl (hb hby d14_5) rfl ?_
        show Steps p.tables e below (T4.setTop (mkF m 6 #[.val (.ref t), .val (.int (2 : Int32)), .val (.int (1 : Int32)), .val (.int c0)] [(.int (1 : Int32))])) _
        refine XS.iloadN X4.here hx rfl (hb hby d14_6) rfl ?_
        show Steps p.tables e below (T4.setTop (mkF m 7 #[.val (.ref t), .val (.int (2 : Int32)), .val (.int (1 : Int32)), .val (.int c0)] [(.int (2 : Int32)), (.int (1 : Int32))])) _
        refine XS.icmpNo X4.here hx rfl (hb hby d14_7) rfl (XT.ii_ge_f (by decide)) ?_
        show Steps p.tables e below (T4.setTop (mkF m 10 #[.val (.ref t), .val (.int (2 : Int32)), .val (.int (1 : Int32)), .val (.int c0)] [])) _
        refine XS.aloadN X4.here hx rfl (hb hby d14_10) rfl rfl ?_
        show Steps p.tables e below (T4.setTop (mkF m 11 #[.val (.ref t), .val (.int (2 : Int32)), .val (.int (1 : Int32)), .val (.int c0)] [(.ref t)])) _
        refine XS.iloadN X4.here hx rfl (hb hby d14_11) rfl ?_
        show Steps p.tables e below (T4.setTop (mkF m 12 #[.val (.ref t), .val (.int (2 : Int32)), .val (.int (1 : Int32)), .val (.int c0)] [(.int (1 : Int32)), (.ref t)])) _
        exact kk
      obtain ⟨_, _, ⟨T17, L17, k17, n17⟩, -, X17, ⟨Lc17, hQ17, l17, y17, z17⟩, st17⟩ := Jvm.LawKit.callS X4 hx (y := (⟨"java/lang/StringLatin1", "getChar", "([BI)C"⟩ : MethodName)) hown (mvT hZ (hw _ (List.mem_of_getElem? (i := 67) rfl))) (mvT hZ (hw _ (List.mem_of_getElem? (i := 68) rfl))) (mvT hZ (hw _ (List.mem_of_getElem? (i := 65) rfl))) (mvT hZ (hw _ (List.mem_of_getElem? (i := 69) rfl))) (by decide) (backOf (W := 0) (rmGC1 l Z a0 hw [] t k c0 h0 n0 Z0 V_t hp0) hZ (hw _ (List.mem_of_getElem? (i := 69) rfl)) (hw _ (List.mem_of_getElem? (i := 65) rfl)) (by decide) (by decide)) (g := (mkF m 12 #[.val (.ref t), .val (.int (2 : Int32)), .val (.int (1 : Int32)), .val (.int c0)] [(.int (1 : Int32)), (.ref t)])) rfl (by rw [hml]; rfl) (argsL := [(.ref t), (.int (1 : Int32))]) (rest := []) (lenOf pd___BI_C rfl) rfl (by show 2 * 0 + _ ≤ _; exact Nat.le_of_eq rfl) (hb hby d14_12) (fun _ _ => ⟨rfl, hh4, (by decide : 0 + 0 ≤ _), (by decide : 0 + 0 ≤ _)⟩)
      dsimp only [Pt.U, Pt.locs, Pt.cells, Pt.slots] at X17 l17 y17 z17 st17 hQ17
      subst l17 y17 z17
      obtain ⟨rfl, N17q, hh17⟩ := hQ17
      have N17 := Fr.app N4 N17q
      have pre18 : ∀ tgt, Steps p.tables e below (T17.setTop (mkF m 28 #[.val (.ref t), .val (.int (2 : Int32)), .val (.int (1 : Int32)), .val (.int (72 : Int32))] [])) tgt → Steps p.tables e below (s₁.setTop (entryFrame m #[(.ref t)] 4)) tgt := by
        intro tgt kk
        refine pre16 tgt ?_
        refine st17 _ ?_
        show Steps p.tables e below (T17.setTop (mkF m 15 #[.val (.ref t), .val (.int (2 : Int32)), .val (.int (1 : Int32)), .val (.int c0)] [(.int (72 : Int32))])) _
        refine XS.istoreN X17.here hx rfl (hb hby d14_15) rfl (l' := #[.val (.ref t), .val (.int (2 : Int32)), .val (.int (1 : Int32)), .val (.int (72 : Int32))]) rfl ?_
        show Steps p.tables e below (T17.setTop (mkF m 16 #[.val (.ref t), .val (.int (2 : Int32)), .val (.int (1 : Int32)), .val (.int (72 : Int32))] [])) _
        refine XS.iloadN X17.here hx rfl (hb hby d14_16) rfl ?_
        show Steps p.tables e below (T17.setTop (mkF m 17 #[.val (.ref t), .val (.int (2 : Int32)), .val (.int (1 : Int32)), .val (.int (72 : Int32))] [(.int (72 : Int32))])) _
        refine XS.bipush X17.here hx rfl (hb hby d14_17) ?_
        show Steps p.tables e below (T17.setTop (mkF m 19 #[.val (.ref t), .val (.int (2 : Int32)), .val (.int (1 : Int32)), .val (.int (72 : Int32))] [(.int (32 : Int32)), (.int (72 : Int32))])) _
        refine XS.icmpNo X17.here hx rfl (hb hby d14_19) rfl (XT.ii_eq_f (by decide)) ?_
        show Steps p.tables e below (T17.setTop (mkF m 22 #[.val (.ref t), .val (.int (2 : Int32)), .val (.int (1 : Int32)), .val (.int (72 : Int32))] [])) _
        refine XS.iloadN X17.here hx rfl (hb hby d14_22) rfl ?_
        show Steps p.tables e below (T17.setTop (mkF m 23 #[.val (.ref t), .val (.int (2 : Int32)), .val (.int (1 : Int32)), .val (.int (72 : Int32))] [(.int (72 : Int32))])) _
        refine XS.bipush X17.here hx rfl (hb hby d14_23) ?_
        show Steps p.tables e below (T17.setTop (mkF m 25 #[.val (.ref t), .val (.int (2 : Int32)), .val (.int (1 : Int32)), .val (.int (72 : Int32))] [(.int (9 : Int32)), (.int (72 : Int32))])) _
        refine XS.icmpNo X17.here hx rfl (hb hby d14_25) rfl (XT.ii_eq_f (by decide)) ?_
        show Steps p.tables e below (T17.setTop (mkF m 28 #[.val (.ref t), .val (.int (2 : Int32)), .val (.int (1 : Int32)), .val (.int (72 : Int32))] [])) _
        exact kk
      obtain ⟨T19, X19, e19, st19⟩ := getS X17 hx hZ hown (host := "") (hw _ (List.mem_of_getElem? (i := 70) rfl)) Via.refl hh17 S_I (g := (mkF m 28 #[.val (.ref t), .val (.int (2 : Int32)), .val (.int (1 : Int32)), .val (.int (72 : Int32))] [])) rfl (hb hby d14_28)
      have pre20 : ∀ tgt, Steps p.tables e below (T19.setTop (mkF m 32 #[.val (.ref t), .val (.int (2 : Int32)), .val (.int (1 : Int32)), .val (.int (72 : Int32))] [(.int (72 : Int32)), (.ref aI)])) tgt → Steps p.tables e below (s₁.setTop (entryFrame m #[(.ref t)] 4)) tgt := by
        intro tgt kk
        refine pre18 tgt ?_
        refine st19 _ ?_
        show Steps p.tables e below (T19.setTop (mkF m 31 #[.val (.ref t), .val (.int (2 : Int32)), .val (.int (1 : Int32)), .val (.int (72 : Int32))] [(.ref aI)])) _
        refine XS.iloadN X19.here hx rfl (hb hby d14_31) rfl ?_
        show Steps p.tables e below (T19.setTop (mkF m 32 #[.val (.ref t), .val (.int (2 : Int32)), .val (.int (1 : Int32)), .val (.int (72 : Int32))] [(.int (72 : Int32)), (.ref aI)])) _
        exact kk
      obtain ⟨cq21, kq21, q21a, q21b, q21c⟩ := isOf hZ e19 E_I
      obtain ⟨_, _, ⟨T21, L21, k21, n21⟩, -, X21, ⟨Lc21, hQ21, l21, y21, z21⟩, st21⟩ := X19.virtualBack hx (y := (⟨"java/lang/CharacterDataLatin1", "isWhitespace", "(I)Z"⟩ : MethodName)) (z := (⟨"java/lang/CharacterDataLatin1", "isWhitespace", "(I)Z"⟩ : MethodName)) hown (mvT hZ (hw _ (List.mem_of_getElem? (i := 72) rfl))) (mvT hZ (hw _ (List.mem_of_getElem? (i := 73) rfl))) (notFace_of_selects (args := #[]) (mvT hZ (hw _ (List.mem_of_getElem? (i := 75) rfl)))) (mvT hZ (hw _ (List.mem_of_getElem? (i := 75) rfl))) (mvT hZ (hw _ (List.mem_of_getElem? (i := 74) rfl))) (by decide) (backOf (W := 0) (rmW l Z a0 hw [] aI ((72 : Int32)) aA clA h0 n0 Z0 E_I S_A Tb hr_1) hZ (hw _ (List.mem_of_getElem? (i := 76) rfl)) (hw _ (List.mem_of_getElem? (i := 71) rfl)) (by decide) (by decide)) q21a q21c (g := (mkF m 32 #[.val (.ref t), .val (.int (2 : Int32)), .val (.int (1 : Int32)), .val (.int (72 : Int32))] [(.int (72 : Int32)), (.ref aI)])) rfl (by rw [hml]; rfl) (Steps.refl _) (argsL := [(.int (72 : Int32))]) (rest := []) (lenOf pd__I_Z rfl) rfl (by show 2 * 0 + _ ≤ _; exact Nat.le_of_eq rfl) (hb hby d14_32) (fun _ _ => ⟨rfl, e19, (by decide : 0 + 0 ≤ _), (by decide : 0 + 0 ≤ _)⟩)
      dsimp only [Pt.U, Pt.locs, Pt.cells, Pt.slots] at X21 l21 y21 z21 st21 hQ21
      subst l21 y21 z21
      obtain ⟨rfl, N21q, hh21⟩ := hQ21
      have N21 := Fr.app N17 N21q
      have hk22 : ¬ (((atv clA (72 : Int32)) &&& (28672 : Int32)) = (16384 : Int32)) := h72
      obtain ⟨fs, hr, hrun, hended, hW, hsame⟩ := X21.leave (v := some (.int (1 : Int32))) (fun h => by rw [Bd.returns] at h; cases h)
      refine ⟨_, _, pre20 _ ?_, hrun, hended, _, _, rfl, ?_, ⟨_, rfl⟩, hW, hsame.mono (by decide) (by decide)⟩
      · skip
        refine st21.trans ?_
        show Steps p.tables e below (T21.setTop (mkF m 35 #[.val (.ref t), .val (.int (2 : Int32)), .val (.int (1 : Int32)), .val (.int (72 : Int32))] [(.int (bI (((atv clA (72 : Int32)) &&& (28672 : Int32)) = (16384 : Int32))))])) _
        refine XS.ifNo X21.here hx rfl (hb hby d14_35) rfl (bB_ne_f hk22) ?_
        show Steps p.tables e below (T21.setTop (mkF m 38 #[.val (.ref t), .val (.int (2 : Int32)), .val (.int (1 : Int32)), .val (.int (72 : Int32))] [])) _
        refine XS.goto X21.here hx rfl (pc0 := 38) (pc' := 47) rfl (hb hby d14_38) (by decide) (by decide) ?_
        show Steps p.tables e below (T21.setTop (mkF m 47 #[.val (.ref t), .val (.int (2 : Int32)), .val (.int (1 : Int32)), .val (.int (72 : Int32))] [])) _
        refine XS.iloadN X21.here hx rfl (hb hby d14_47) rfl ?_
        show Steps p.tables e below (T21.setTop (mkF m 48 #[.val (.ref t), .val (.int (2 : Int32)), .val (.int (1 : Int32)), .val (.int (72 : Int32))] [(.int (1 : Int32))])) _
        exact retI X21 hx Bd.returns (hb hby d14_48) hr
      · show QIx Z t k c0 aI aA clA h0 n0 _ T21.heap _
        rw [hh21]
        exact ⟨by simp [bI, hc19_6, hc25_15], N21, rfl⟩
    · skip
      have pre23 : ∀ tgt, Steps p.tables e below (T4.setTop (mkF m 28 #[.val (.ref t), .val (.int (2 : Int32)), .val (.int (0 : Int32)), .val (.int c0)] [])) tgt → Steps p.tables e below (s₁.setTop (entryFrame m #[(.ref t)] 4)) tgt := by
        intro tgt kk
        refine pre14 tgt ?_
        refine XS.icmpNo X4.here hx rfl (hb hby d14_25) rfl (XT.ii_eq_f hc25_15) ?_
        show Steps p.tables e below (T4.setTop (mkF m 28 #[.val (.ref t), .val (.int (2 : Int32)), .val (.int (0 : Int32)), .val (.int c0)] [])) _
        exact kk
      obtain ⟨T24, X24, e24, st24⟩ := getS X4 hx hZ hown (host := "") (hw _ (List.mem_of_getElem? (i := 70) rfl)) Via.refl hh4 S_I (g := (mkF m 28 #[.val (.ref t), .val (.int (2 : Int32)), .val (.int (0 : Int32)), .val (.int c0)] [])) rfl (hb hby d14_28)
      have pre25 : ∀ tgt, Steps p.tables e below (T24.setTop (mkF m 32 #[.val (.ref t), .val (.int (2 : Int32)), .val (.int (0 : Int32)), .val (.int c0)] [(.int c0), (.ref aI)])) tgt → Steps p.tables e below (s₁.setTop (entryFrame m #[(.ref t)] 4)) tgt := by
        intro tgt kk
        refine pre23 tgt ?_
        refine st24 _ ?_
        show Steps p.tables e below (T24.setTop (mkF m 31 #[.val (.ref t), .val (.int (2 : Int32)), .val (.int (0 : Int32)), .val (.int c0)] [(.ref aI)])) _
        refine XS.iloadN X24.here hx rfl (hb hby d14_31) rfl ?_
        show Steps p.tables e below (T24.setTop (mkF m 32 #[.val (.ref t), .val (.int (2 : Int32)), .val (.int (0 : Int32)), .val (.int c0)] [(.int c0), (.ref aI)])) _
        exact kk
      obtain ⟨cq26, kq26, q26a, q26b, q26c⟩ := isOf hZ e24 E_I
      obtain ⟨_, _, ⟨T26, L26, k26, n26⟩, -, X26, ⟨Lc26, hQ26, l26, y26, z26⟩, st26⟩ := X24.virtualBack hx (y := (⟨"java/lang/CharacterDataLatin1", "isWhitespace", "(I)Z"⟩ : MethodName)) (z := (⟨"java/lang/CharacterDataLatin1", "isWhitespace", "(I)Z"⟩ : MethodName)) hown (mvT hZ (hw _ (List.mem_of_getElem? (i := 72) rfl))) (mvT hZ (hw _ (List.mem_of_getElem? (i := 73) rfl))) (notFace_of_selects (args := #[]) (mvT hZ (hw _ (List.mem_of_getElem? (i := 75) rfl)))) (mvT hZ (hw _ (List.mem_of_getElem? (i := 75) rfl))) (mvT hZ (hw _ (List.mem_of_getElem? (i := 74) rfl))) (by decide) (backOf (W := 0) (rmW l Z a0 hw [] aI (c0) aA clA h0 n0 Z0 E_I S_A Tb hr_0) hZ (hw _ (List.mem_of_getElem? (i := 76) rfl)) (hw _ (List.mem_of_getElem? (i := 71) rfl)) (by decide) (by decide)) q26a q26c (g := (mkF m 32 #[.val (.ref t), .val (.int (2 : Int32)), .val (.int (0 : Int32)), .val (.int c0)] [(.int c0), (.ref aI)])) rfl (by rw [hml]; rfl) (Steps.refl _) (argsL := [(.int c0)]) (rest := []) (lenOf pd__I_Z rfl) rfl (by show 2 * 0 + _ ≤ _; exact Nat.le_of_eq rfl) (hb hby d14_32) (fun _ _ => ⟨rfl, e24, (by decide : 0 + 0 ≤ _), (by decide : 0 + 0 ≤ _)⟩)
      dsimp only [Pt.U, Pt.locs, Pt.cells, Pt.slots] at X26 l26 y26 z26 st26 hQ26
      subst l26 y26 z26
      obtain ⟨rfl, N26q, hh26⟩ := hQ26
      have N26 := Fr.app N4 N26q
      have pre27 : ∀ tgt, Steps p.tables e below (T26.setTop (mkF m 35 #[.val (.ref t), .val (.int (2 : Int32)), .val (.int (0 : Int32)), .val (.int c0)] [(.int (bI (((atv clA c0) &&& (28672 : Int32)) = (16384 : Int32))))])) tgt → Steps p.tables e below (s₁.setTop (entryFrame m #[(.ref t)] 4)) tgt := by
        intro tgt kk
        refine pre25 tgt ?_
        refine st26.trans ?_
        show Steps p.tables e below (T26.setTop (mkF m 35 #[.val (.ref t), .val (.int (2 : Int32)), .val (.int (0 : Int32)), .val (.int c0)] [(.int (bI (((atv clA c0) &&& (28672 : Int32)) = (16384 : Int32))))])) _
        exact kk
      by_cases hc35_28 : ((atv clA c0) &&& (28672 : Int32)) = (16384 : Int32)
      · skip
        have pre29 : ∀ tgt, Steps p.tables e below (T26.setTop (mkF m 12 #[.val (.ref t), .val (.int (2 : Int32)), .val (.int (1 : Int32)), .val (.int c0)] [(.int (1 : Int32)), (.ref t)])) tgt → Steps p.tables e below (s₁.setTop (entryFrame m #[(.ref t)] 4)) tgt := by
          intro tgt kk
          refine pre27 tgt ?_
          refine XS.ifYes X26.here hx rfl (pc0 := 35) (pc' := 41) rfl (hb hby d14_35) rfl (bB_ne_t hc35_28) (by decide) (by decide) ?_
          show Steps p.tables e below (T26.setTop (mkF m 41 #[.val (.ref t), .val (.int (2 : Int32)), .val (.int (0 : Int32)), .val (.int c0)] [])) _
          refine XS.iinc X26.here hx rfl (hb hby d14_41) rfl (l' := #[.val (.ref t), .val (.int (2 : Int32)), .val (.int (1 : Int32)), .val (.int c0)]) rfl ?_
          show Steps p.tables e below (T26.setTop (mkF m 44 #[.val (.ref t), .val (.int (2 : Int32)), .val (.int (1 : Int32)), .val (.int c0)] [])) _
          refine XS.goto X26.here hx rfl (pc0 := 44) (pc' := 5) rfl (hb hby d14_44) (by decide) (by decide) ?_
          show Steps p.tables e below (T26.setTop (mkF m 5 #[.val (.ref t), .val (.int (2 : Int32)), .val (.int (1 : Int32)), .val (.int c0)] [])) _
          refine XS.iloadN X26.here hx rfl (hb hby d14_5) rfl ?_
          show Steps p.tables e below (T26.setTop (mkF m 6 #[.val (.ref t), .val (.int (2 : Int32)), .val (.int (1 : Int32)), .val (.int c0)] [(.int (1 : Int32))])) _
          refine XS.iloadN X26.here hx rfl (hb hby d14_6) rfl ?_
          show Steps p.tables e below (T26.setTop (mkF m 7 #[.val (.ref t), .val (.int (2 : Int32)), .val (.int (1 : Int32)), .val (.int c0)] [(.int (2 : Int32)), (.int (1 : Int32))])) _
          refine XS.icmpNo X26.here hx rfl (hb hby d14_7) rfl (XT.ii_ge_f (by decide)) ?_
          show Steps p.tables e below (T26.setTop (mkF m 10 #[.val (.ref t), .val (.int (2 : Int32)), .val (.int (1 : Int32)), .val (.int c0)] [])) _
          refine XS.aloadN X26.here hx rfl (hb hby d14_10) rfl rfl ?_
          show Steps p.tables e below (T26.setTop (mkF m 11 #[.val (.ref t), .val (.int (2 : Int32)), .val (.int (1 : Int32)), .val (.int c0)] [(.ref t)])) _
          refine XS.iloadN X26.here hx rfl (hb hby d14_11) rfl ?_
          show Steps p.tables e below (T26.setTop (mkF m 12 #[.val (.ref t), .val (.int (2 : Int32)), .val (.int (1 : Int32)), .val (.int c0)] [(.int (1 : Int32)), (.ref t)])) _
          exact kk
        obtain ⟨_, _, ⟨T30, L30, k30, n30⟩, -, X30, ⟨Lc30, hQ30, l30, y30, z30⟩, st30⟩ := Jvm.LawKit.callS X26 hx (y := (⟨"java/lang/StringLatin1", "getChar", "([BI)C"⟩ : MethodName)) hown (mvT hZ (hw _ (List.mem_of_getElem? (i := 67) rfl))) (mvT hZ (hw _ (List.mem_of_getElem? (i := 68) rfl))) (mvT hZ (hw _ (List.mem_of_getElem? (i := 65) rfl))) (mvT hZ (hw _ (List.mem_of_getElem? (i := 69) rfl))) (by decide) (backOf (W := 0) (rmGC1 l Z a0 hw [] t k c0 h0 n0 Z0 V_t hp0) hZ (hw _ (List.mem_of_getElem? (i := 69) rfl)) (hw _ (List.mem_of_getElem? (i := 65) rfl)) (by decide) (by decide)) (g := (mkF m 12 #[.val (.ref t), .val (.int (2 : Int32)), .val (.int (1 : Int32)), .val (.int c0)] [(.int (1 : Int32)), (.ref t)])) rfl (by rw [hml]; rfl) (argsL := [(.ref t), (.int (1 : Int32))]) (rest := []) (lenOf pd___BI_C rfl) rfl (by show 2 * 0 + _ ≤ _; exact Nat.le_of_eq rfl) (hb hby d14_12) (fun _ _ => ⟨rfl, hh26, (by decide : 0 + 0 ≤ _), (by decide : 0 + 0 ≤ _)⟩)
        dsimp only [Pt.U, Pt.locs, Pt.cells, Pt.slots] at X30 l30 y30 z30 st30 hQ30
        subst l30 y30 z30
        obtain ⟨rfl, N30q, hh30⟩ := hQ30
        have N30 := Fr.app N26 N30q
        have pre31 : ∀ tgt, Steps p.tables e below (T30.setTop (mkF m 28 #[.val (.ref t), .val (.int (2 : Int32)), .val (.int (1 : Int32)), .val (.int (72 : Int32))] [])) tgt → Steps p.tables e below (s₁.setTop (entryFrame m #[(.ref t)] 4)) tgt := by
          intro tgt kk
          refine pre29 tgt ?_
          refine st30 _ ?_
          show Steps p.tables e below (T30.setTop (mkF m 15 #[.val (.ref t), .val (.int (2 : Int32)), .val (.int (1 : Int32)), .val (.int c0)] [(.int (72 : Int32))])) _
          refine XS.istoreN X30.here hx rfl (hb hby d14_15) rfl (l' := #[.val (.ref t), .val (.int (2 : Int32)), .val (.int (1 : Int32)), .val (.int (72 : Int32))]) rfl ?_
          show Steps p.tables e below (T30.setTop (mkF m 16 #[.val (.ref t), .val (.int (2 : Int32)), .val (.int (1 : Int32)), .val (.int (72 : Int32))] [])) _
          refine XS.iloadN X30.here hx rfl (hb hby d14_16) rfl ?_
          show Steps p.tables e below (T30.setTop (mkF m 17 #[.val (.ref t), .val (.int (2 : Int32)), .val (.int (1 : Int32)), .val (.int (72 : Int32))] [(.int (72 : Int32))])) _
          refine XS.bipush X30.here hx rfl (hb hby d14_17) ?_
          show Steps p.tables e below (T30.setTop (mkF m 19 #[.val (.ref t), .val (.int (2 : Int32)), .val (.int (1 : Int32)), .val (.int (72 : Int32))] [(.int (32 : Int32)), (.int (72 : Int32))])) _
          refine XS.icmpNo X30.here hx rfl (hb hby d14_19) rfl (XT.ii_eq_f (by decide)) ?_
          show Steps p.tables e below (T30.setTop (mkF m 22 #[.val (.ref t), .val (.int (2 : Int32)), .val (.int (1 : Int32)), .val (.int (72 : Int32))] [])) _
          refine XS.iloadN X30.here hx rfl (hb hby d14_22) rfl ?_
          show Steps p.tables e below (T30.setTop (mkF m 23 #[.val (.ref t), .val (.int (2 : Int32)), .val (.int (1 : Int32)), .val (.int (72 : Int32))] [(.int (72 : Int32))])) _
          refine XS.bipush X30.here hx rfl (hb hby d14_23) ?_
          show Steps p.tables e below (T30.setTop (mkF m 25 #[.val (.ref t), .val (.int (2 : Int32)), .val (.int (1 : Int32)), .val (.int (72 : Int32))] [(.int (9 : Int32)), (.int (72 : Int32))])) _
          refine XS.icmpNo X30.here hx rfl (hb hby d14_25) rfl (XT.ii_eq_f (by decide)) ?_
          show Steps p.tables e below (T30.setTop (mkF m 28 #[.val (.ref t), .val (.int (2 : Int32)), .val (.int (1 : Int32)), .val (.int (72 : Int32))] [])) _
          exact kk
        obtain ⟨T32, X32, e32, st32⟩ := getS X30 hx hZ hown (host := "") (hw _ (List.mem_of_getElem? (i := 70) rfl)) Via.refl hh30 S_I (g := (mkF m 28 #[.val (.ref t), .val (.int (2 : Int32)), .val (.int (1 : Int32)), .val (.int (72 : Int32))] [])) rfl (hb hby d14_28)
        have pre33 : ∀ tgt, Steps p.tables e below (T32.setTop (mkF m 32 #[.val (.ref t), .val (.int (2 : Int32)), .val (.int (1 : Int32)), .val (.int (72 : Int32))] [(.int (72 : Int32)), (.ref aI)])) tgt → Steps p.tables e below (s₁.setTop (entryFrame m #[(.ref t)] 4)) tgt := by
          intro tgt kk
          refine pre31 tgt ?_
          refine st32 _ ?_
          show Steps p.tables e below (T32.setTop (mkF m 31 #[.val (.ref t), .val (.int (2 : Int32)), .val (.int (1 : Int32)), .val (.int (72 : Int32))] [(.ref aI)])) _
          refine XS.iloadN X32.here hx rfl (hb hby d14_31) rfl ?_
          show Steps p.tables e below (T32.setTop (mkF m 32 #[.val (.ref t), .val (.int (2 : Int32)), .val (.int (1 : Int32)), .val (.int (72 : Int32))] [(.int (72 : Int32)), (.ref aI)])) _
          exact kk
        obtain ⟨cq34, kq34, q34a, q34b, q34c⟩ := isOf hZ e32 E_I
        obtain ⟨_, _, ⟨T34, L34, k34, n34⟩, -, X34, ⟨Lc34, hQ34, l34, y34, z34⟩, st34⟩ := X32.virtualBack hx (y := (⟨"java/lang/CharacterDataLatin1", "isWhitespace", "(I)Z"⟩ : MethodName)) (z := (⟨"java/lang/CharacterDataLatin1", "isWhitespace", "(I)Z"⟩ : MethodName)) hown (mvT hZ (hw _ (List.mem_of_getElem? (i := 72) rfl))) (mvT hZ (hw _ (List.mem_of_getElem? (i := 73) rfl))) (notFace_of_selects (args := #[]) (mvT hZ (hw _ (List.mem_of_getElem? (i := 75) rfl)))) (mvT hZ (hw _ (List.mem_of_getElem? (i := 75) rfl))) (mvT hZ (hw _ (List.mem_of_getElem? (i := 74) rfl))) (by decide) (backOf (W := 0) (rmW l Z a0 hw [] aI ((72 : Int32)) aA clA h0 n0 Z0 E_I S_A Tb hr_1) hZ (hw _ (List.mem_of_getElem? (i := 76) rfl)) (hw _ (List.mem_of_getElem? (i := 71) rfl)) (by decide) (by decide)) q34a q34c (g := (mkF m 32 #[.val (.ref t), .val (.int (2 : Int32)), .val (.int (1 : Int32)), .val (.int (72 : Int32))] [(.int (72 : Int32)), (.ref aI)])) rfl (by rw [hml]; rfl) (Steps.refl _) (argsL := [(.int (72 : Int32))]) (rest := []) (lenOf pd__I_Z rfl) rfl (by show 2 * 0 + _ ≤ _; exact Nat.le_of_eq rfl) (hb hby d14_32) (fun _ _ => ⟨rfl, e32, (by decide : 0 + 0 ≤ _), (by decide : 0 + 0 ≤ _)⟩)
        dsimp only [Pt.U, Pt.locs, Pt.cells, Pt.slots] at X34 l34 y34 z34 st34 hQ34
        subst l34 y34 z34
        obtain ⟨rfl, N34q, hh34⟩ := hQ34
        have N34 := Fr.app N30 N34q
        have hk35 : ¬ (((atv clA (72 : Int32)) &&& (28672 : Int32)) = (16384 : Int32)) := h72
        obtain ⟨fs, hr, hrun, hended, hW, hsame⟩ := X34.leave (v := some (.int (1 : Int32))) (fun h => by rw [Bd.returns] at h; cases h)
        refine ⟨_, _, pre33 _ ?_, hrun, hended, _, _, rfl, ?_, ⟨_, rfl⟩, hW, hsame.mono (by decide) (by decide)⟩
        · skip
          refine st34.trans ?_
          show Steps p.tables e below (T34.setTop (mkF m 35 #[.val (.ref t), .val (.int (2 : Int32)), .val (.int (1 : Int32)), .val (.int (72 : Int32))] [(.int (bI (((atv clA (72 : Int32)) &&& (28672 : Int32)) = (16384 : Int32))))])) _
          refine XS.ifNo X34.here hx rfl (hb hby d14_35) rfl (bB_ne_f hk35) ?_
          show Steps p.tables e below (T34.setTop (mkF m 38 #[.val (.ref t), .val (.int (2 : Int32)), .val (.int (1 : Int32)), .val (.int (72 : Int32))] [])) _
          refine XS.goto X34.here hx rfl (pc0 := 38) (pc' := 47) rfl (hb hby d14_38) (by decide) (by decide) ?_
          show Steps p.tables e below (T34.setTop (mkF m 47 #[.val (.ref t), .val (.int (2 : Int32)), .val (.int (1 : Int32)), .val (.int (72 : Int32))] [])) _
          refine XS.iloadN X34.here hx rfl (hb hby d14_47) rfl ?_
          show Steps p.tables e below (T34.setTop (mkF m 48 #[.val (.ref t), .val (.int (2 : Int32)), .val (.int (1 : Int32)), .val (.int (72 : Int32))] [(.int (1 : Int32))])) _
          exact retI X34 hx Bd.returns (hb hby d14_48) hr
        · show QIx Z t k c0 aI aA clA h0 n0 _ T34.heap _
          rw [hh34]
          exact ⟨by simp [bI, hc19_6, hc25_15, hc35_28], N34, rfl⟩
      · skip
        obtain ⟨fs, hr, hrun, hended, hW, hsame⟩ := X26.leave (v := some (.int (0 : Int32))) (fun h => by rw [Bd.returns] at h; cases h)
        refine ⟨_, _, pre27 _ ?_, hrun, hended, _, _, rfl, ?_, ⟨_, rfl⟩, hW, hsame.mono (by decide) (by decide)⟩
        · skip
          refine XS.ifNo X26.here hx rfl (hb hby d14_35) rfl (bB_ne_f hc35_28) ?_
          show Steps p.tables e below (T26.setTop (mkF m 38 #[.val (.ref t), .val (.int (2 : Int32)), .val (.int (0 : Int32)), .val (.int c0)] [])) _
          refine XS.goto X26.here hx rfl (pc0 := 38) (pc' := 47) rfl (hb hby d14_38) (by decide) (by decide) ?_
          show Steps p.tables e below (T26.setTop (mkF m 47 #[.val (.ref t), .val (.int (2 : Int32)), .val (.int (0 : Int32)), .val (.int c0)] [])) _
          refine XS.iloadN X26.here hx rfl (hb hby d14_47) rfl ?_
          show Steps p.tables e below (T26.setTop (mkF m 48 #[.val (.ref t), .val (.int (2 : Int32)), .val (.int (0 : Int32)), .val (.int c0)] [(.int (0 : Int32))])) _
          exact retI X26 hx Bd.returns (hb hby d14_48) hr
        · show QIx Z t k c0 aI aA clA h0 n0 _ T26.heap _
          rw [hh26]
          exact ⟨by simp [bI, hc19_6, hc25_15, hc35_28], N26, rfl⟩
theorem d13_0 : decode jdk_42_method_154_code 0 = .ok (.getstatic 38, 3) := by decide +kernel
theorem d13_3 : decode jdk_42_method_154_code 3 = .ok (.ifCond .eq 14, 3) := by decide +kernel
theorem d13_6 : decode jdk_42_method_154_code 6 = .ok (.aload_n 0, 1) := by decide +kernel
theorem d13_7 : decode jdk_42_method_154_code 7 = .ok (.getfield 15, 3) := by decide +kernel
theorem d13_10 : decode jdk_42_method_154_code 10 = .ok (.ifCond .ne 7, 3) := by decide +kernel
theorem d13_13 : decode jdk_42_method_154_code 13 = .ok (.iconst 1, 1) := by decide +kernel
theorem d13_14 : decode jdk_42_method_154_code 14 = .ok (.goto 4, 3) := by decide +kernel
theorem d13_18 : decode jdk_42_method_154_code 18 = .ok (.ireturn, 1) := by decide +kernel
theorem pn_13 : plainName "java/lang/String" = true := by first | (simp [plainName, overriddenIn]; done) | decide +kernel
theorem ef_rmLat (m : MethodId) (x0 : Addr) : entryFrame m #[(.ref x0)] 1 = mkF m 0 #[.val (.ref x0)] [] := by first | (simp [entryFrame, mkF, argsToLocals, Value.category]; done) | rfl
def QLat (Z : State) (x : Addr) (z0 : Int32) (h0 : Heap) (n0 : Nat) (v : Option Value) (h : Heap) (L : List Loc) : Prop := v = some (.int (1 : Int32)) ∧ Fr n0 L ∧ h = h0
set_option maxRecDepth 65536 in
set_option maxHeartbeats 40000000 in
theorem rmLat (l : Launch) (Z : State) (a0 : Array Value) (hw : ∀ d ∈ tables_1, d.before a0 Z = true) (ws : List Jvm.Cond) (x : Addr) (z0 : Int32) (h0 : Heap) (n0 : Nat) (Z0 : n0 ≤ h0.size) (S_CS : Sta Z h0 "java/lang/String" "COMPACT_STRINGS" "Z" (.int z0)) (Fc_x : Fld Z h0 x "java/lang/String" "coder" "B" (.int (0 : Int32))) (hz : ¬ z0 = 0) :
    MetFree l (⟨"java/lang/String", "isLatin1", "()Z"⟩ : MethodName) (head1 (Jvm.Cond.code (⟨"java/lang/String", "isLatin1", "()Z"⟩ : MethodName) jdk_42_method_154_code 1 (some .boolean) :: ws) ({ frames := 0, cells := 0, slots := 0, locals := 0 } : Room)) (fun ar UU => ar = #[(.ref x)] ∧ Z.Warmed39 UU.vm ∧ UU.heap = h0) (fun _ _ _ _ _ => True) (fun _ UU oo UU' => ∃ vv LL, oo = .returned vv ∧ QLat Z x z0 h0 n0 vv UU'.heap LL ∧ FrameEnd UU oo UU' LL ({ frames := 0, cells := 0, slots := 0, locals := 0 } : Room).cells ({ frames := 0, cells := 0, slots := 0, locals := 0 } : Room).slots) := by
  refine MetFree.of_bodySF (plainFor_of_name pn_13) hisR ?_
  intro p e s m args below meth c s₁ Bd hml0 hP hK
  obtain ⟨rfl, hZ, hh⟩ := hP
  have hx := Bd.exec
  have hby := Bd.bytes
  have hml : c.maxLocals = 1 := hml0
  have hown : s.vm.findClass "java/lang/String" = some m.cls := findClass_of_methodNamed Bd.named
  have hnm := (name_of_methodNamed Bd.named Bd.method).1
  have X0 : Stand p l e ({ frames := 0, cells := 0, slots := 0, locals := 0 } : Room) s m #[(.ref x)] below meth c s₁ [] 0 0 := Stand.of_body Bd
  have e0 : s₁.heap = h0 := by rw [← hh, Bd.state]; rfl
  have N0 := Fr.nil n0
  have KC0 : Keep h0 h0 [] := Keep.refl h0 []
  have pre0 : ∀ tgt, Steps p.tables e below (s₁.setTop (mkF m 0 #[.val (.ref x)] [])) tgt → Steps p.tables e below (s₁.setTop (entryFrame m #[(.ref x)] 1)) tgt := fun tgt kk => castTop (ef_rmLat m (x)) kk
  obtain ⟨T1, X1, e1, st1⟩ := getS X0 hx hZ hown (host := "") (hw _ (List.mem_of_getElem? (i := 18) rfl)) Via.refl e0 S_CS (g := (mkF m 0 #[.val (.ref x)] [])) rfl (hb hby d13_0)
  have hk2 : ¬ (z0 = (0 : Int32)) := hz
  have pre3 : ∀ tgt, Steps p.tables e below (T1.setTop (mkF m 7 #[.val (.ref x)] [(.ref x)])) tgt → Steps p.tables e below (s₁.setTop (entryFrame m #[(.ref x)] 1)) tgt := by
    intro tgt kk
    refine pre0 tgt ?_
    refine st1 _ ?_
    show Steps p.tables e below (T1.setTop (mkF m 3 #[.val (.ref x)] [(.int z0)])) _
    refine XS.ifNo X1.here hx rfl (hb hby d13_3) rfl (XT.i0_eq_f hk2) ?_
    show Steps p.tables e below (T1.setTop (mkF m 6 #[.val (.ref x)] [])) _
    refine XS.aloadN X1.here hx rfl (hb hby d13_6) rfl rfl ?_
    show Steps p.tables e below (T1.setTop (mkF m 7 #[.val (.ref x)] [(.ref x)])) _
    exact kk
  obtain ⟨T4, X4, e4, st4⟩ := getF X1 hx hZ hown (host := "") (Or.inl (hw _ (List.mem_of_getElem? (i := 30) rfl))) Via.refl e1 Fc_x (g := (mkF m 7 #[.val (.ref x)] [(.ref x)])) rfl rfl (hb hby d13_7)
  obtain ⟨fs, hr, hrun, hended, hW, hsame⟩ := X4.leave (v := some (.int (1 : Int32))) (fun h => by rw [Bd.returns] at h; cases h)
  refine ⟨_, _, pre3 _ ?_, hrun, hended, _, _, rfl, ?_, ⟨_, rfl⟩, hW, hsame.mono (by decide) (by decide)⟩
  · skip
    refine st4 _ ?_
    show Steps p.tables e below (T4.setTop (mkF m 10 #[.val (.ref x)] [(.int (0 : Int32))])) _
    refine XS.ifNo X4.here hx rfl (hb hby d13_10) rfl (XT.i0_ne_f (by decide)) ?_
    show Steps p.tables e below (T4.setTop (mkF m 13 #[.val (.ref x)] [])) _
    refine XS.iconst X4.here hx rfl (hb hby d13_13) ?_
    show Steps p.tables e below (T4.setTop (mkF m 14 #[.val (.ref x)] [(.int (1 : Int32))])) _
    refine XS.goto X4.here hx rfl (pc0 := 14) (pc' := 18) rfl (hb hby d13_14) (by decide) (by decide) ?_
    show Steps p.tables e below (T4.setTop (mkF m 18 #[.val (.ref x)] [(.int (1 : Int32))])) _
    exact retN X4 hx (t := .boolean) Bd.returns (by simp) (hb hby d13_18) hr
  · show QLat Z x z0 h0 n0 _ T4.heap _
    rw [e4]
    exact ⟨rfl, N0, rfl⟩
theorem d12_0 : decode jdk_42_method_120_code 0 = .ok (.aload_n 0, 1) := by decide +kernel
theorem d12_1 : decode jdk_42_method_120_code 1 = .ok (.invokevirtual 492, 3) := by decide +kernel
theorem d12_4 : decode jdk_42_method_120_code 4 = .ok (.ifCond .eq 13, 3) := by decide +kernel
theorem d12_7 : decode jdk_42_method_120_code 7 = .ok (.aload_n 0, 1) := by decide +kernel
theorem d12_8 : decode jdk_42_method_120_code 8 = .ok (.getfield 9, 3) := by decide +kernel
theorem d12_11 : decode jdk_42_method_120_code 11 = .ok (.invokestatic 924, 3) := by decide +kernel
theorem d12_14 : decode jdk_42_method_120_code 14 = .ok (.goto 10, 3) := by decide +kernel
theorem d12_24 : decode jdk_42_method_120_code 24 = .ok (.ireturn, 1) := by decide +kernel
theorem pn_12 : plainName "java/lang/String" = true := by first | (simp [plainName, overriddenIn]; done) | decide +kernel
theorem pd___Z : parseMethodDescriptor "()Z" = some ⟨[], some .boolean⟩ := by decide +kernel
theorem pd___B_I : parseMethodDescriptor "([B)I" = some ⟨[(.array .byte)], some .int⟩ := by decide +kernel
theorem ef_rmIS (m : MethodId) (x0 : Addr) : entryFrame m #[(.ref x0)] 1 = mkF m 0 #[.val (.ref x0)] [] := by first | (simp [entryFrame, mkF, argsToLocals, Value.category]; done) | rfl
def QIS (Z : State) (x : Addr) (t : Addr) (k : ClassId) (c0 : Int32) (z0 : Int32) (aI : Addr) (aA : Addr) (clA : Cell) (h0 : Heap) (n0 : Nat) (v : Option Value) (h : Heap) (L : List Loc) : Prop := v = some (.int (bI ((c0 = (32 : Int32)) ∨ (c0 = (9 : Int32)) ∨ (((atv clA c0) &&& (28672 : Int32)) = (16384 : Int32))))) ∧ Fr n0 L ∧ h = h0
set_option maxRecDepth 65536 in
set_option maxHeartbeats 40000000 in
theorem rmIS (l : Launch) (Z : State) (a0 : Array Value) (hw : ∀ d ∈ tables_1, d.before a0 Z = true) (ws : List Jvm.Cond) (x : Addr) (t : Addr) (k : ClassId) (c0 : Int32) (z0 : Int32) (aI : Addr) (aA : Addr) (clA : Cell) (h0 : Heap) (n0 : Nat) (Z0 : n0 ≤ h0.size) (S_CS : Sta Z h0 "java/lang/String" "COMPACT_STRINGS" "Z" (.int z0)) (E_x : Exa Z h0 x "java/lang/String") (Fv_x : Fld Z h0 x "java/lang/String" "value" "[B" (.ref t)) (Fc_x : Fld Z h0 x "java/lang/String" "coder" "B" (.int (0 : Int32))) (V_x : Arv Z h0 t k .byte (2 : Int32) ((([c0, (72 : Int32)] : List Int32).map (fun c => c.toInt8.toInt32)).map Value.int) (.int (0 : Int32))) (S_A : Sta Z h0 "java/lang/CharacterDataLatin1" "A" "[I" (.ref aA)) (S_I : Sta Z h0 "java/lang/CharacterDataLatin1" "instance" "Ljava/lang/CharacterDataLatin1;" (.ref aI)) (E_I : Exa Z h0 aI "java/lang/CharacterDataLatin1") (Tb : Tab Z h0 aA clA .int (256 : Int32)) (h72 : ¬ (((atv clA (72 : Int32)) &&& (28672 : Int32)) = (16384 : Int32))) (hp0 : ¬ c0 < 0 ∧ ¬ (255 : Int32) < c0) (hz : ¬ z0 = 0) :
    MetFree l (⟨"java/lang/String", "indexOfNonWhitespace", "()I"⟩ : MethodName) (head1 (Jvm.Cond.code (⟨"java/lang/String", "indexOfNonWhitespace", "()I"⟩ : MethodName) jdk_42_method_120_code 1 (some .int) :: ws) ({ frames := 3, cells := 0, slots := 0, locals := 46 } : Room)) (fun ar UU => ar = #[(.ref x)] ∧ Z.Warmed39 UU.vm ∧ UU.heap = h0) (fun _ _ _ _ _ => True) (fun _ UU oo UU' => ∃ vv LL, oo = .returned vv ∧ QIS Z x t k c0 z0 aI aA clA h0 n0 vv UU'.heap LL ∧ FrameEnd UU oo UU' LL ({ frames := 3, cells := 0, slots := 0, locals := 46 } : Room).cells ({ frames := 3, cells := 0, slots := 0, locals := 46 } : Room).slots) := by
  refine MetFree.of_bodySF (plainFor_of_name pn_12) hisR ?_
  intro p e s m args below meth c s₁ Bd hml0 hP hK
  obtain ⟨rfl, hZ, hh⟩ := hP
  have hx := Bd.exec
  have hby := Bd.bytes
  have hml : c.maxLocals = 1 := hml0
  have hown : s.vm.findClass "java/lang/String" = some m.cls := findClass_of_methodNamed Bd.named
  have hnm := (name_of_methodNamed Bd.named Bd.method).1
  have X0 : Stand p l e ({ frames := 3, cells := 0, slots := 0, locals := 46 } : Room) s m #[(.ref x)] below meth c s₁ [] 0 0 := Stand.of_body Bd
  have e0 : s₁.heap = h0 := by rw [← hh, Bd.state]; rfl
  have N0 := Fr.nil n0
  have KC0 : Keep h0 h0 [] := Keep.refl h0 []
  have pre0 : ∀ tgt, Steps p.tables e below (s₁.setTop (mkF m 0 #[.val (.ref x)] [])) tgt → Steps p.tables e below (s₁.setTop (entryFrame m #[(.ref x)] 1)) tgt := fun tgt kk => castTop (ef_rmIS m (x)) kk
  have pre1 : ∀ tgt, Steps p.tables e below (s₁.setTop (mkF m 1 #[.val (.ref x)] [(.ref x)])) tgt → Steps p.tables e below (s₁.setTop (entryFrame m #[(.ref x)] 1)) tgt := by
    intro tgt kk
    refine pre0 tgt ?_
    refine XS.aloadN X0.here hx rfl (hb hby d12_0) rfl rfl ?_
    show Steps p.tables e below (s₁.setTop (mkF m 1 #[.val (.ref x)] [(.ref x)])) _
    exact kk
  obtain ⟨cq2, kq2, q2a, q2b, q2c⟩ := isOf hZ e0 E_x
  obtain ⟨_, _, ⟨T2, L2, k2, n2⟩, -, X2, ⟨Lc2, hQ2, l2, y2, z2⟩, st2⟩ := X0.virtualBack hx (y := (⟨"java/lang/String", "isLatin1", "()Z"⟩ : MethodName)) (z := (⟨"java/lang/String", "isLatin1", "()Z"⟩ : MethodName)) hown (mvT hZ (hw _ (List.mem_of_getElem? (i := 58) rfl))) (mvT hZ (hw _ (List.mem_of_getElem? (i := 59) rfl))) (notFace_of_selects (args := #[]) (mvT hZ (hw _ (List.mem_of_getElem? (i := 61) rfl)))) (mvT hZ (hw _ (List.mem_of_getElem? (i := 61) rfl))) (mvT hZ (hw _ (List.mem_of_getElem? (i := 60) rfl))) (by decide) (backOf (W := 0) (rmLat l Z a0 hw [] x z0 h0 n0 Z0 S_CS Fc_x hz) hZ (hw _ (List.mem_of_getElem? (i := 62) rfl)) (hw _ (List.mem_of_getElem? (i := 7) rfl)) (by decide) (by decide)) q2a q2c (g := (mkF m 1 #[.val (.ref x)] [(.ref x)])) rfl (by rw [hml]; rfl) (Steps.refl _) (argsL := []) (rest := []) (lenOf pd___Z rfl) rfl (by show 2 * 0 + _ ≤ _; exact Nat.le_of_eq rfl) (hb hby d12_1) (fun _ _ => ⟨rfl, e0, (by decide : 0 + 0 ≤ _), (by decide : 0 + 0 ≤ _)⟩)
  dsimp only [Pt.U, Pt.locs, Pt.cells, Pt.slots] at X2 l2 y2 z2 st2 hQ2
  subst l2 y2 z2
  obtain ⟨rfl, N2q, hh2⟩ := hQ2
  have N2 := Fr.app N0 N2q
  have pre3 : ∀ tgt, Steps p.tables e below (T2.setTop (mkF m 8 #[.val (.ref x)] [(.ref x)])) tgt → Steps p.tables e below (s₁.setTop (entryFrame m #[(.ref x)] 1)) tgt := by
    intro tgt kk
    refine pre1 tgt ?_
    refine st2.trans ?_
    show Steps p.tables e below (T2.setTop (mkF m 4 #[.val (.ref x)] [(.int (1 : Int32))])) _
    refine XS.ifNo X2.here hx rfl (hb hby d12_4) rfl (XT.i0_eq_f (by decide)) ?_
    show Steps p.tables e below (T2.setTop (mkF m 7 #[.val (.ref x)] [])) _
    refine XS.aloadN X2.here hx rfl (hb hby d12_7) rfl rfl ?_
    show Steps p.tables e below (T2.setTop (mkF m 8 #[.val (.ref x)] [(.ref x)])) _
    exact kk
  obtain ⟨T4, X4, e4, st4⟩ := getF X2 hx hZ hown (host := "") (Or.inl (hw _ (List.mem_of_getElem? (i := 32) rfl))) Via.refl hh2 Fv_x (g := (mkF m 8 #[.val (.ref x)] [(.ref x)])) rfl rfl (hb hby d12_8)
  have pre5 : ∀ tgt, Steps p.tables e below (T4.setTop (mkF m 11 #[.val (.ref x)] [(.ref t)])) tgt → Steps p.tables e below (s₁.setTop (entryFrame m #[(.ref x)] 1)) tgt := by
    intro tgt kk
    refine pre3 tgt ?_
    refine st4 _ ?_
    show Steps p.tables e below (T4.setTop (mkF m 11 #[.val (.ref x)] [(.ref t)])) _
    exact kk
  obtain ⟨_, _, ⟨T6, L6, k6, n6⟩, -, X6, ⟨Lc6, hQ6, l6, y6, z6⟩, st6⟩ := Jvm.LawKit.callS X4 hx (y := (⟨"java/lang/StringLatin1", "indexOfNonWhitespace", "([B)I"⟩ : MethodName)) hown (mvT hZ (hw _ (List.mem_of_getElem? (i := 63) rfl))) (mvT hZ (hw _ (List.mem_of_getElem? (i := 64) rfl))) (mvT hZ (hw _ (List.mem_of_getElem? (i := 65) rfl))) (mvT hZ (hw _ (List.mem_of_getElem? (i := 66) rfl))) (by decide) (backOf (W := 0) (rmIx l Z a0 hw [] t k c0 aI aA clA h0 n0 Z0 V_x S_A S_I E_I Tb h72 hp0) hZ (hw _ (List.mem_of_getElem? (i := 66) rfl)) (hw _ (List.mem_of_getElem? (i := 65) rfl)) (by decide) (by decide)) (g := (mkF m 11 #[.val (.ref x)] [(.ref t)])) rfl (by rw [hml]; rfl) (argsL := [(.ref t)]) (rest := []) (lenOf pd___B_I rfl) rfl (by show 2 * 0 + _ ≤ _; exact Nat.le_of_eq rfl) (hb hby d12_11) (fun _ _ => ⟨rfl, e4, (by decide : 0 + 0 ≤ _), (by decide : 0 + 0 ≤ _)⟩)
  dsimp only [Pt.U, Pt.locs, Pt.cells, Pt.slots] at X6 l6 y6 z6 st6 hQ6
  subst l6 y6 z6
  obtain ⟨rfl, N6q, hh6⟩ := hQ6
  have N6 := Fr.app N2 N6q
  obtain ⟨fs, hr, hrun, hended, hW, hsame⟩ := X6.leave (v := some (.int (bI ((c0 = (32 : Int32)) ∨ (c0 = (9 : Int32)) ∨ (((atv clA c0) &&& (28672 : Int32)) = (16384 : Int32)))))) (fun h => by rw [Bd.returns] at h; cases h)
  refine ⟨_, _, pre5 _ ?_, hrun, hended, _, _, rfl, ?_, ⟨_, rfl⟩, hW, hsame.mono (by decide) (by decide)⟩
  · skip
    refine st6 _ ?_
    show Steps p.tables e below (T6.setTop (mkF m 14 #[.val (.ref x)] [(.int (bI ((c0 = (32 : Int32)) ∨ (c0 = (9 : Int32)) ∨ (((atv clA c0) &&& (28672 : Int32)) = (16384 : Int32)))))])) _
    refine XS.goto X6.here hx rfl (pc0 := 14) (pc' := 24) rfl (hb hby d12_14) (by decide) (by decide) ?_
    show Steps p.tables e below (T6.setTop (mkF m 24 #[.val (.ref x)] [(.int (bI ((c0 = (32 : Int32)) ∨ (c0 = (9 : Int32)) ∨ (((atv clA c0) &&& (28672 : Int32)) = (16384 : Int32)))))])) _
    exact retI X6 hx Bd.returns (hb hby d12_24) hr
  · show QIS Z x t k c0 z0 aI aA clA h0 n0 _ T6.heap _
    rw [hh6]
    exact ⟨rfl, N6, rfl⟩
theorem d11_0 : decode jdk_42_method_117_code 0 = .ok (.aload_n 0, 1) := by decide +kernel
theorem d11_1 : decode jdk_42_method_117_code 1 = .ok (.invokevirtual 876, 3) := by decide +kernel
theorem d11_4 : decode jdk_42_method_117_code 4 = .ok (.aload_n 0, 1) := by decide +kernel
theorem d11_5 : decode jdk_42_method_117_code 5 = .ok (.invokevirtual 505, 3) := by decide +kernel
theorem d11_8 : decode jdk_42_method_117_code 8 = .ok (.if_icmp .ne 7, 3) := by decide +kernel
theorem d11_15 : decode jdk_42_method_117_code 15 = .ok (.iconst 0, 1) := by decide +kernel
theorem d11_16 : decode jdk_42_method_117_code 16 = .ok (.ireturn, 1) := by decide +kernel
theorem pn_11 : plainName "java/lang/String" = true := by first | (simp [plainName, overriddenIn]; done) | decide +kernel
theorem pd___I : parseMethodDescriptor "()I" = some ⟨[], some .int⟩ := by decide +kernel
theorem ef_rmB (m : MethodId) (x0 : Addr) : entryFrame m #[(.ref x0)] 1 = mkF m 0 #[.val (.ref x0)] [] := by first | (simp [entryFrame, mkF, argsToLocals, Value.category]; done) | rfl
def QB (Z : State) (x : Addr) (t : Addr) (k : ClassId) (c0 : Int32) (z0 : Int32) (aI : Addr) (aA : Addr) (clA : Cell) (h0 : Heap) (n0 : Nat) (v : Option Value) (h : Heap) (L : List Loc) : Prop := v = some (.int (0 : Int32)) ∧ Fr n0 L ∧ h = h0
set_option maxRecDepth 65536 in
set_option maxHeartbeats 40000000 in
theorem rmB (l : Launch) (Z : State) (a0 : Array Value) (hw : ∀ d ∈ tables_1, d.before a0 Z = true) (ws : List Jvm.Cond) (x : Addr) (t : Addr) (k : ClassId) (c0 : Int32) (z0 : Int32) (aI : Addr) (aA : Addr) (clA : Cell) (h0 : Heap) (n0 : Nat) (Z0 : n0 ≤ h0.size) (S_CS : Sta Z h0 "java/lang/String" "COMPACT_STRINGS" "Z" (.int z0)) (E_x : Exa Z h0 x "java/lang/String") (Fv_x : Fld Z h0 x "java/lang/String" "value" "[B" (.ref t)) (Fc_x : Fld Z h0 x "java/lang/String" "coder" "B" (.int (0 : Int32))) (V_x : Arv Z h0 t k .byte (2 : Int32) ((([c0, (72 : Int32)] : List Int32).map (fun c => c.toInt8.toInt32)).map Value.int) (.int (0 : Int32))) (S_A : Sta Z h0 "java/lang/CharacterDataLatin1" "A" "[I" (.ref aA)) (S_I : Sta Z h0 "java/lang/CharacterDataLatin1" "instance" "Ljava/lang/CharacterDataLatin1;" (.ref aI)) (E_I : Exa Z h0 aI "java/lang/CharacterDataLatin1") (Tb : Tab Z h0 aA clA .int (256 : Int32)) (h72 : ¬ (((atv clA (72 : Int32)) &&& (28672 : Int32)) = (16384 : Int32))) (hp0 : ¬ c0 < 0 ∧ ¬ (255 : Int32) < c0) (hz : ¬ z0 = 0) :
    MetFree l (⟨"java/lang/String", "isBlank", "()Z"⟩ : MethodName) (head1 (Jvm.Cond.code (⟨"java/lang/String", "isBlank", "()Z"⟩ : MethodName) jdk_42_method_117_code 1 (some .boolean) :: ws) ({ frames := 4, cells := 0, slots := 0, locals := 58 } : Room)) (fun ar UU => ar = #[(.ref x)] ∧ Z.Warmed39 UU.vm ∧ UU.heap = h0) (fun _ _ _ _ _ => True) (fun _ UU oo UU' => ∃ vv LL, oo = .returned vv ∧ QB Z x t k c0 z0 aI aA clA h0 n0 vv UU'.heap LL ∧ FrameEnd UU oo UU' LL ({ frames := 4, cells := 0, slots := 0, locals := 58 } : Room).cells ({ frames := 4, cells := 0, slots := 0, locals := 58 } : Room).slots) := by
  refine MetFree.of_bodySF (plainFor_of_name pn_11) hisR ?_
  intro p e s m args below meth c s₁ Bd hml0 hP hK
  obtain ⟨rfl, hZ, hh⟩ := hP
  have hx := Bd.exec
  have hby := Bd.bytes
  have hml : c.maxLocals = 1 := hml0
  have hown : s.vm.findClass "java/lang/String" = some m.cls := findClass_of_methodNamed Bd.named
  have hnm := (name_of_methodNamed Bd.named Bd.method).1
  have X0 : Stand p l e ({ frames := 4, cells := 0, slots := 0, locals := 58 } : Room) s m #[(.ref x)] below meth c s₁ [] 0 0 := Stand.of_body Bd
  have e0 : s₁.heap = h0 := by rw [← hh, Bd.state]; rfl
  have N0 := Fr.nil n0
  have KC0 : Keep h0 h0 [] := Keep.refl h0 []
  have pre0 : ∀ tgt, Steps p.tables e below (s₁.setTop (mkF m 0 #[.val (.ref x)] [])) tgt → Steps p.tables e below (s₁.setTop (entryFrame m #[(.ref x)] 1)) tgt := fun tgt kk => castTop (ef_rmB m (x)) kk
  have pre1 : ∀ tgt, Steps p.tables e below (s₁.setTop (mkF m 1 #[.val (.ref x)] [(.ref x)])) tgt → Steps p.tables e below (s₁.setTop (entryFrame m #[(.ref x)] 1)) tgt := by
    intro tgt kk
    refine pre0 tgt ?_
    refine XS.aloadN X0.here hx rfl (hb hby d11_0) rfl rfl ?_
    show Steps p.tables e below (s₁.setTop (mkF m 1 #[.val (.ref x)] [(.ref x)])) _
    exact kk
  obtain ⟨cq2, q2, q2'⟩ := E_x.cell
  obtain ⟨_, _, ⟨T2, L2, k2, n2⟩, -, X2, ⟨Lc2, hQ2, l2, y2, z2⟩, st2⟩ := X0.privateBack hx (y := (⟨"java/lang/String", "indexOfNonWhitespace", "()I"⟩ : MethodName)) hown (mvT hZ (hw _ (List.mem_of_getElem? (i := 53) rfl))) (mvT hZ (hw _ (List.mem_of_getElem? (i := 54) rfl))) (mvT hZ (hw _ (List.mem_of_getElem? (i := 56) rfl))) (Cond.privateMethod_at (mvP hZ (hw _ (List.mem_of_getElem? (i := 55) rfl)) (args := #[]))) (mvT hZ (hw _ (List.mem_of_getElem? (i := 57) rfl))) (by decide) (backOf (W := 0) (rmIS l Z a0 hw [] x t k c0 z0 aI aA clA h0 n0 Z0 S_CS E_x Fv_x Fc_x V_x S_A S_I E_I Tb h72 hp0 hz) hZ (hw _ (List.mem_of_getElem? (i := 57) rfl)) (hw _ (List.mem_of_getElem? (i := 7) rfl)) (by decide) (by decide)) (g := (mkF m 1 #[.val (.ref x)] [(.ref x)])) rfl (by rw [hml]; rfl) (Steps.refl _) (a := x) (by rw [e0]; exact q2) q2' (argsL := []) (rest := []) (lenOf pd___I rfl) rfl (by show 2 * 0 + _ ≤ _; exact Nat.le_of_eq rfl) (hb hby d11_1) (fun _ _ => ⟨rfl, e0, (by decide : 0 + 0 ≤ _), (by decide : 0 + 0 ≤ _)⟩)
  dsimp only [Pt.U, Pt.locs, Pt.cells, Pt.slots] at X2 l2 y2 z2 st2 hQ2
  subst l2 y2 z2
  obtain ⟨rfl, N2q, hh2⟩ := hQ2
  have N2 := Fr.app N0 N2q
  have pre3 : ∀ tgt, Steps p.tables e below (T2.setTop (mkF m 5 #[.val (.ref x)] [(.ref x), (.int (bI ((c0 = (32 : Int32)) ∨ (c0 = (9 : Int32)) ∨ (((atv clA c0) &&& (28672 : Int32)) = (16384 : Int32)))))])) tgt → Steps p.tables e below (s₁.setTop (entryFrame m #[(.ref x)] 1)) tgt := by
    intro tgt kk
    refine pre1 tgt ?_
    refine st2.trans ?_
    show Steps p.tables e below (T2.setTop (mkF m 4 #[.val (.ref x)] [(.int (bI ((c0 = (32 : Int32)) ∨ (c0 = (9 : Int32)) ∨ (((atv clA c0) &&& (28672 : Int32)) = (16384 : Int32)))))])) _
    refine XS.aloadN X2.here hx rfl (hb hby d11_4) rfl rfl ?_
    show Steps p.tables e below (T2.setTop (mkF m 5 #[.val (.ref x)] [(.ref x), (.int (bI ((c0 = (32 : Int32)) ∨ (c0 = (9 : Int32)) ∨ (((atv clA c0) &&& (28672 : Int32)) = (16384 : Int32)))))])) _
    exact kk
  have hwl4 : ∀ d ∈ StrChars.Road.wordsLen, d.before a0 Z = true := fun d hd => hw d ((by decide +kernel : ∀ d ∈ StrChars.Road.wordsLen, d ∈ tables_1) d hd)
  obtain ⟨cq5, kq5, q5a, q5b, q5c⟩ := isOf hZ hh2 E_x
  obtain ⟨_, _, ⟨T5, L5, k5, n5⟩, -, X5, ⟨Lc5, hQ5, l5, y5, z5⟩, st5⟩ := X2.virtualBack hx (y := (⟨"java/lang/String", "length", "()I"⟩ : MethodName)) (z := (⟨"java/lang/String", "length", "()I"⟩ : MethodName)) hown (mvT hZ (hw _ (List.mem_of_getElem? (i := 83) rfl))) (mvT hZ (hw _ (List.mem_of_getElem? (i := 84) rfl))) (notFace_of_selects (args := #[]) (mvT hZ (hw _ (List.mem_of_getElem? (i := 86) rfl)))) (mvT hZ (hw _ (List.mem_of_getElem? (i := 86) rfl))) (mvT hZ (hw _ (List.mem_of_getElem? (i := 85) rfl))) (by decide) (StrChars.Road.lenW (W := 1) hZ hwl4 (kI := 4) (hw _ (List.mem_of_getElem? (i := 6) rfl)) E_x Fv_x Fc_x V_x (own_cod (n := 2) rfl rfl (own_pS hp0 (own_pS (by decide) own_p0))) (own_up (own_pS hp0 (own_pS (by decide) own_p0))) S_CS hz (Nat.le_of_ble_eq_true rfl) (by decide) (by decide)) q5a q5c (g := (mkF m 5 #[.val (.ref x)] [(.ref x), (.int (bI ((c0 = (32 : Int32)) ∨ (c0 = (9 : Int32)) ∨ (((atv clA c0) &&& (28672 : Int32)) = (16384 : Int32)))))])) rfl (by rw [hml]; rfl) (Steps.refl _) (argsL := []) (rest := [(.int (bI ((c0 = (32 : Int32)) ∨ (c0 = (9 : Int32)) ∨ (((atv clA c0) &&& (28672 : Int32)) = (16384 : Int32)))))]) (lenOf pd___I rfl) rfl (by show 2 * 0 + _ ≤ _; exact Nat.le_of_eq rfl) (hb hby d11_5) (fun _ _ => ⟨rfl, hh2, (by decide : 0 + 0 ≤ _), (by decide : 0 + 0 ≤ _)⟩)
  dsimp only [Pt.U, Pt.locs, Pt.cells, Pt.slots] at X5 l5 y5 z5 st5 hQ5
  subst l5 y5 z5
  obtain ⟨rfl, rfl, hh5⟩ := hQ5
  have N5q : Fr n0 ([] : List Loc) := Fr.nil n0
  have N5 := Fr.app N2 N5q
  have hk6 : ¬ ((bI ((c0 = (32 : Int32)) ∨ (c0 = (9 : Int32)) ∨ (((atv clA c0) &&& (28672 : Int32)) = (16384 : Int32)))) = (2 : Int32)) := own_bI2
  obtain ⟨fs, hr, hrun, hended, hW, hsame⟩ := X5.leave (v := some (.int (0 : Int32))) (fun h => by rw [Bd.returns] at h; cases h)
  refine ⟨_, _, pre3 _ ?_, hrun, hended, _, _, rfl, ?_, ⟨_, rfl⟩, hW, hsame.mono (by decide) (by decide)⟩
  · skip
    refine st5.trans ?_
    show Steps p.tables e below (T5.setTop (mkF m 8 #[.val (.ref x)] [(.int (2 : Int32)), (.int (bI ((c0 = (32 : Int32)) ∨ (c0 = (9 : Int32)) ∨ (((atv clA c0) &&& (28672 : Int32)) = (16384 : Int32)))))])) _
    refine XS.icmpYes X5.here hx rfl (pc0 := 8) (pc' := 15) rfl (hb hby d11_8) rfl (XT.ii_ne_t hk6) (by decide) (by decide) ?_
    show Steps p.tables e below (T5.setTop (mkF m 15 #[.val (.ref x)] [])) _
    refine XS.iconst X5.here hx rfl (hb hby d11_15) ?_
    show Steps p.tables e below (T5.setTop (mkF m 16 #[.val (.ref x)] [(.int (0 : Int32))])) _
    exact retN X5 hx (t := .boolean) Bd.returns (by simp) (hb hby d11_16) hr
  · show QB Z x t k c0 z0 aI aA clA h0 n0 _ T5.heap _
    rw [hh5]
    exact ⟨rfl, N5, rfl⟩
theorem d10_0 : decode prog_13_method_2_code 0 = .ok (.aload_n 0, 1) := by decide +kernel
theorem d10_1 : decode prog_13_method_2_code 1 = .ok (.ifnull 14, 3) := by decide +kernel
theorem d10_4 : decode prog_13_method_2_code 4 = .ok (.aload_n 0, 1) := by decide +kernel
theorem d10_5 : decode prog_13_method_2_code 5 = .ok (.invokevirtual 75, 3) := by decide +kernel
theorem d10_8 : decode prog_13_method_2_code 8 = .ok (.ifCond .ne 7, 3) := by decide +kernel
theorem d10_11 : decode prog_13_method_2_code 11 = .ok (.iconst 1, 1) := by decide +kernel
theorem d10_12 : decode prog_13_method_2_code 12 = .ok (.goto 4, 3) := by decide +kernel
theorem d10_16 : decode prog_13_method_2_code 16 = .ok (.ireturn, 1) := by decide +kernel
theorem pn_10 : plainName "com/example/leasehold/leasehold/LeaseRequest" = true := by first | (simp [plainName, overriddenIn]; done) | decide +kernel
theorem ef_rmVH (m : MethodId) (x0 : Addr) : entryFrame m #[(.ref x0)] 1 = mkF m 0 #[.val (.ref x0)] [] := by first | (simp [entryFrame, mkF, argsToLocals, Value.category]; done) | rfl
def QVH (Z : State) (x : Addr) (t : Addr) (k : ClassId) (c0 : Int32) (z0 : Int32) (aI : Addr) (aA : Addr) (clA : Cell) (h0 : Heap) (n0 : Nat) (v : Option Value) (h : Heap) (L : List Loc) : Prop := v = some (.int (1 : Int32)) ∧ Fr n0 L ∧ h = h0
set_option maxRecDepth 65536 in
set_option maxHeartbeats 40000000 in
theorem rmVH (l : Launch) (Z : State) (a0 : Array Value) (hw : ∀ d ∈ tables_1, d.before a0 Z = true) (ws : List Jvm.Cond) (x : Addr) (t : Addr) (k : ClassId) (c0 : Int32) (z0 : Int32) (aI : Addr) (aA : Addr) (clA : Cell) (h0 : Heap) (n0 : Nat) (Z0 : n0 ≤ h0.size) (S_CS : Sta Z h0 "java/lang/String" "COMPACT_STRINGS" "Z" (.int z0)) (E_x : Exa Z h0 x "java/lang/String") (Fv_x : Fld Z h0 x "java/lang/String" "value" "[B" (.ref t)) (Fc_x : Fld Z h0 x "java/lang/String" "coder" "B" (.int (0 : Int32))) (V_x : Arv Z h0 t k .byte (2 : Int32) ((([c0, (72 : Int32)] : List Int32).map (fun c => c.toInt8.toInt32)).map Value.int) (.int (0 : Int32))) (S_A : Sta Z h0 "java/lang/CharacterDataLatin1" "A" "[I" (.ref aA)) (S_I : Sta Z h0 "java/lang/CharacterDataLatin1" "instance" "Ljava/lang/CharacterDataLatin1;" (.ref aI)) (E_I : Exa Z h0 aI "java/lang/CharacterDataLatin1") (Tb : Tab Z h0 aA clA .int (256 : Int32)) (h72 : ¬ (((atv clA (72 : Int32)) &&& (28672 : Int32)) = (16384 : Int32))) (hp0 : ¬ c0 < 0 ∧ ¬ (255 : Int32) < c0) (hz : ¬ z0 = 0) :
    MetFree l (⟨"com/example/leasehold/leasehold/LeaseRequest", "isValidHolder", "(Ljava/lang/String;)Z"⟩ : MethodName) (head1 (Jvm.Cond.code (⟨"com/example/leasehold/leasehold/LeaseRequest", "isValidHolder", "(Ljava/lang/String;)Z"⟩ : MethodName) prog_13_method_2_code 1 (some .boolean) :: ws) ({ frames := 5, cells := 0, slots := 0, locals := 70 } : Room)) (fun ar UU => ar = #[(.ref x)] ∧ Z.Warmed39 UU.vm ∧ UU.heap = h0) (fun _ _ _ _ _ => True) (fun _ UU oo UU' => ∃ vv LL, oo = .returned vv ∧ QVH Z x t k c0 z0 aI aA clA h0 n0 vv UU'.heap LL ∧ FrameEnd UU oo UU' LL ({ frames := 5, cells := 0, slots := 0, locals := 70 } : Room).cells ({ frames := 5, cells := 0, slots := 0, locals := 70 } : Room).slots) := by
  refine MetFree.of_bodySF (plainFor_of_name pn_10) hisR ?_
  intro p e s m args below meth c s₁ Bd hml0 hP hK
  obtain ⟨rfl, hZ, hh⟩ := hP
  have hx := Bd.exec
  have hby := Bd.bytes
  have hml : c.maxLocals = 1 := hml0
  have hown : s.vm.findClass "com/example/leasehold/leasehold/LeaseRequest" = some m.cls := findClass_of_methodNamed Bd.named
  have hnm := (name_of_methodNamed Bd.named Bd.method).1
  have X0 : Stand p l e ({ frames := 5, cells := 0, slots := 0, locals := 70 } : Room) s m #[(.ref x)] below meth c s₁ [] 0 0 := Stand.of_body Bd
  have e0 : s₁.heap = h0 := by rw [← hh, Bd.state]; rfl
  have N0 := Fr.nil n0
  have KC0 : Keep h0 h0 [] := Keep.refl h0 []
  have pre0 : ∀ tgt, Steps p.tables e below (s₁.setTop (mkF m 0 #[.val (.ref x)] [])) tgt → Steps p.tables e below (s₁.setTop (entryFrame m #[(.ref x)] 1)) tgt := fun tgt kk => castTop (ef_rmVH m (x)) kk
  have pre1 : ∀ tgt, Steps p.tables e below (s₁.setTop (mkF m 5 #[.val (.ref x)] [(.ref x)])) tgt → Steps p.tables e below (s₁.setTop (entryFrame m #[(.ref x)] 1)) tgt := by
    intro tgt kk
    refine pre0 tgt ?_
    refine XS.aloadN X0.here hx rfl (hb hby d10_0) rfl rfl ?_
    show Steps p.tables e below (s₁.setTop (mkF m 1 #[.val (.ref x)] [(.ref x)])) _
    refine XT.nullNo X0.here hx rfl (hb hby d10_1) rfl rfl (by intro q; cases q) ?_
    show Steps p.tables e below (s₁.setTop (mkF m 4 #[.val (.ref x)] [])) _
    refine XS.aloadN X0.here hx rfl (hb hby d10_4) rfl rfl ?_
    show Steps p.tables e below (s₁.setTop (mkF m 5 #[.val (.ref x)] [(.ref x)])) _
    exact kk
  obtain ⟨cq2, kq2, q2a, q2b, q2c⟩ := isOf hZ e0 E_x
  obtain ⟨_, _, ⟨T2, L2, k2, n2⟩, -, X2, ⟨Lc2, hQ2, l2, y2, z2⟩, st2⟩ := X0.virtualBack hx (y := (⟨"java/lang/String", "isBlank", "()Z"⟩ : MethodName)) (z := (⟨"java/lang/String", "isBlank", "()Z"⟩ : MethodName)) hown (mvT hZ (hw _ (List.mem_of_getElem? (i := 48) rfl))) (mvT hZ (hw _ (List.mem_of_getElem? (i := 49) rfl))) (notFace_of_selects (args := #[]) (mvT hZ (hw _ (List.mem_of_getElem? (i := 51) rfl)))) (mvT hZ (hw _ (List.mem_of_getElem? (i := 51) rfl))) (mvT hZ (hw _ (List.mem_of_getElem? (i := 50) rfl))) (by decide) (backOf (W := 0) (rmB l Z a0 hw [] x t k c0 z0 aI aA clA h0 n0 Z0 S_CS E_x Fv_x Fc_x V_x S_A S_I E_I Tb h72 hp0 hz) hZ (hw _ (List.mem_of_getElem? (i := 52) rfl)) (hw _ (List.mem_of_getElem? (i := 7) rfl)) (by decide) (by decide)) q2a q2c (g := (mkF m 5 #[.val (.ref x)] [(.ref x)])) rfl (by rw [hml]; rfl) (Steps.refl _) (argsL := []) (rest := []) (lenOf pd___Z rfl) rfl (by show 2 * 0 + _ ≤ _; exact Nat.le_of_eq rfl) (hb hby d10_5) (fun _ _ => ⟨rfl, e0, (by decide : 0 + 0 ≤ _), (by decide : 0 + 0 ≤ _)⟩)
  dsimp only [Pt.U, Pt.locs, Pt.cells, Pt.slots] at X2 l2 y2 z2 st2 hQ2
  subst l2 y2 z2
  obtain ⟨rfl, N2q, hh2⟩ := hQ2
  have N2 := Fr.app N0 N2q
  obtain ⟨fs, hr, hrun, hended, hW, hsame⟩ := X2.leave (v := some (.int (1 : Int32))) (fun h => by rw [Bd.returns] at h; cases h)
  refine ⟨_, _, pre1 _ ?_, hrun, hended, _, _, rfl, ?_, ⟨_, rfl⟩, hW, hsame.mono (by decide) (by decide)⟩
  · skip
    refine st2.trans ?_
    show Steps p.tables e below (T2.setTop (mkF m 8 #[.val (.ref x)] [(.int (0 : Int32))])) _
    refine XS.ifNo X2.here hx rfl (hb hby d10_8) rfl (XT.i0_ne_f (by decide)) ?_
    show Steps p.tables e below (T2.setTop (mkF m 11 #[.val (.ref x)] [])) _
    refine XS.iconst X2.here hx rfl (hb hby d10_11) ?_
    show Steps p.tables e below (T2.setTop (mkF m 12 #[.val (.ref x)] [(.int (1 : Int32))])) _
    refine XS.goto X2.here hx rfl (pc0 := 12) (pc' := 16) rfl (hb hby d10_12) (by decide) (by decide) ?_
    show Steps p.tables e below (T2.setTop (mkF m 16 #[.val (.ref x)] [(.int (1 : Int32))])) _
    exact retN X2 hx (t := .boolean) Bd.returns (by simp) (hb hby d10_16) hr
  · show QVH Z x t k c0 z0 aI aA clA h0 n0 _ T2.heap _
    rw [hh2]
    exact ⟨rfl, N2, rfl⟩
theorem d20_0 : decode prog_13_method_3_code 0 = .ok (.lload_n 0, 1) := by decide +kernel
theorem d20_1 : decode prog_13_method_3_code 1 = .ok (.lconst 1, 1) := by decide +kernel
theorem d20_2 : decode prog_13_method_3_code 2 = .ok (.lcmp, 1) := by decide +kernel
theorem d20_3 : decode prog_13_method_3_code 3 = .ok (.ifCond .lt 7, 3) := by decide +kernel
theorem d20_6 : decode prog_13_method_3_code 6 = .ok (.iconst 1, 1) := by decide +kernel
theorem d20_7 : decode prog_13_method_3_code 7 = .ok (.goto 4, 3) := by decide +kernel
theorem d20_11 : decode prog_13_method_3_code 11 = .ok (.ireturn, 1) := by decide +kernel
theorem pn_20 : plainName "com/example/leasehold/leasehold/LeaseRequest" = true := by first | (simp [plainName, overriddenIn]; done) | decide +kernel
theorem ef_rmVT (m : MethodId) (x0 : Int64) : entryFrame m #[(.long x0)] 2 = mkF m 0 #[.val (.long x0), .second] [] := by first | (simp [entryFrame, mkF, argsToLocals, Value.category]; done) | rfl
def QVT (Z : State) (q1 : Int64) (h0 : Heap) (n0 : Nat) (v : Option Value) (h : Heap) (L : List Loc) : Prop := v = some (.int (1 : Int32)) ∧ Fr n0 L ∧ h = h0
set_option maxRecDepth 65536 in
set_option maxHeartbeats 40000000 in
theorem rmVT (l : Launch) (Z : State) (a0 : Array Value) (hw : ∀ d ∈ tables_1, d.before a0 Z = true) (ws : List Jvm.Cond) (q1 : Int64) (h0 : Heap) (n0 : Nat) (Z0 : n0 ≤ h0.size) (hq : ¬ (q1 < (1 : Int64))) :
    MetFree l (⟨"com/example/leasehold/leasehold/LeaseRequest", "isValidTtl", "(J)Z"⟩ : MethodName) (head1 (Jvm.Cond.code (⟨"com/example/leasehold/leasehold/LeaseRequest", "isValidTtl", "(J)Z"⟩ : MethodName) prog_13_method_3_code 2 (some .boolean) :: ws) ({ frames := 0, cells := 0, slots := 0, locals := 0 } : Room)) (fun ar UU => ar = #[(.long q1)] ∧ Z.Warmed39 UU.vm ∧ UU.heap = h0) (fun _ _ _ _ _ => True) (fun _ UU oo UU' => ∃ vv LL, oo = .returned vv ∧ QVT Z q1 h0 n0 vv UU'.heap LL ∧ FrameEnd UU oo UU' LL ({ frames := 0, cells := 0, slots := 0, locals := 0 } : Room).cells ({ frames := 0, cells := 0, slots := 0, locals := 0 } : Room).slots) := by
  refine MetFree.of_bodySF (plainFor_of_name pn_20) hisR ?_
  intro p e s m args below meth c s₁ Bd hml0 hP hK
  obtain ⟨rfl, hZ, hh⟩ := hP
  have hx := Bd.exec
  have hby := Bd.bytes
  have hml : c.maxLocals = 2 := hml0
  have hown : s.vm.findClass "com/example/leasehold/leasehold/LeaseRequest" = some m.cls := findClass_of_methodNamed Bd.named
  have hnm := (name_of_methodNamed Bd.named Bd.method).1
  have X0 : Stand p l e ({ frames := 0, cells := 0, slots := 0, locals := 0 } : Room) s m #[(.long q1)] below meth c s₁ [] 0 0 := Stand.of_body Bd
  have e0 : s₁.heap = h0 := by rw [← hh, Bd.state]; rfl
  have N0 := Fr.nil n0
  have KC0 : Keep h0 h0 [] := Keep.refl h0 []
  have pre0 : ∀ tgt, Steps p.tables e below (s₁.setTop (mkF m 0 #[.val (.long q1), .second] [])) tgt → Steps p.tables e below (s₁.setTop (entryFrame m #[(.long q1)] 2)) tgt := fun tgt kk => castTop (ef_rmVT m (q1)) kk
  have hk1 : ¬ (q1 < (1 : Int64)) := hq
  obtain ⟨fs, hr, hrun, hended, hW, hsame⟩ := X0.leave (v := some (.int (1 : Int32))) (fun h => by rw [Bd.returns] at h; cases h)
  refine ⟨_, _, pre0 _ ?_, hrun, hended, _, _, rfl, ?_, ⟨_, rfl⟩, hW, hsame.mono (by decide) (by decide)⟩
  · skip
    refine XS.lloadN X0.here hx rfl (hb hby d20_0) rfl ?_
    show Steps p.tables e below (s₁.setTop (mkF m 1 #[.val (.long q1), .second] [(.long q1)])) _
    refine XS.lconst X0.here hx rfl (hb hby d20_1) ?_
    show Steps p.tables e below (s₁.setTop (mkF m 2 #[.val (.long q1), .second] [(.long (1 : Int64)), (.long q1)])) _
    refine XS.lcmp X0.here hx rfl (hb hby d20_2) rfl ?_
    show Steps p.tables e below (s₁.setTop (mkF m 3 #[.val (.long q1), .second] [(.int (lcmpW q1 (1 : Int64)))])) _
    refine XS.ifNo X0.here hx rfl (hb hby d20_3) rfl (XT.ll_lt_f hk1) ?_
    show Steps p.tables e below (s₁.setTop (mkF m 6 #[.val (.long q1), .second] [])) _
    refine XS.iconst X0.here hx rfl (hb hby d20_6) ?_
    show Steps p.tables e below (s₁.setTop (mkF m 7 #[.val (.long q1), .second] [(.int (1 : Int32))])) _
    refine XS.goto X0.here hx rfl (pc0 := 7) (pc' := 11) rfl (hb hby d20_7) (by decide) (by decide) ?_
    show Steps p.tables e below (s₁.setTop (mkF m 11 #[.val (.long q1), .second] [(.int (1 : Int32))])) _
    exact retN X0 hx (t := .boolean) Bd.returns (by simp) (hb hby d20_11) hr
  · show QVT Z q1 h0 n0 _ s₁.heap _
    rw [e0]
    exact ⟨rfl, N0, rfl⟩
theorem d21_0 : decode jdk_31_method_11_code 0 = .ok (.aload_n 0, 1) := by decide +kernel
theorem d21_1 : decode jdk_31_method_11_code 1 = .ok (.ifnonnull 12, 3) := by decide +kernel
theorem d21_13 : decode jdk_31_method_11_code 13 = .ok (.aload_n 0, 1) := by decide +kernel
theorem d21_14 : decode jdk_31_method_11_code 14 = .ok (.areturn, 1) := by decide +kernel
theorem pn_21 : plainName "java/util/Objects" = true := by first | (simp [plainName, overriddenIn]; done) | decide +kernel
theorem ef_rmNN (m : MethodId) (x0 : Addr) (x1 : Addr) : entryFrame m #[(.ref x0), (.ref x1)] 2 = mkF m 0 #[.val (.ref x0), .val (.ref x1)] [] := by first | (simp [entryFrame, mkF, argsToLocals, Value.category]; done) | rfl
def QNN (Z : State) (a : Addr) (b : Addr) (h0 : Heap) (n0 : Nat) (v : Option Value) (h : Heap) (L : List Loc) : Prop := v = some (.ref a) ∧ Fr n0 L ∧ h = h0
set_option maxRecDepth 65536 in
set_option maxHeartbeats 40000000 in
theorem rmNN (l : Launch) (Z : State) (a0 : Array Value) (hw : ∀ d ∈ tables_1, d.before a0 Z = true) (ws : List Jvm.Cond) (a : Addr) (b : Addr) (h0 : Heap) (n0 : Nat) (Z0 : n0 ≤ h0.size) :
    MetFree l (⟨"java/util/Objects", "requireNonNull", "(Ljava/lang/Object;Ljava/lang/String;)Ljava/lang/Object;"⟩ : MethodName) (head1 (Jvm.Cond.code (⟨"java/util/Objects", "requireNonNull", "(Ljava/lang/Object;Ljava/lang/String;)Ljava/lang/Object;"⟩ : MethodName) jdk_31_method_11_code 2 (some (.object "java/lang/Object")) :: ws) ({ frames := 0, cells := 0, slots := 0, locals := 0 } : Room)) (fun ar UU => ar = #[(.ref a), (.ref b)] ∧ Z.Warmed39 UU.vm ∧ UU.heap = h0) (fun _ _ _ _ _ => True) (fun _ UU oo UU' => ∃ vv LL, oo = .returned vv ∧ QNN Z a b h0 n0 vv UU'.heap LL ∧ FrameEnd UU oo UU' LL ({ frames := 0, cells := 0, slots := 0, locals := 0 } : Room).cells ({ frames := 0, cells := 0, slots := 0, locals := 0 } : Room).slots) := by
  refine MetFree.of_bodySF (plainFor_of_name pn_21) hisR ?_
  intro p e s m args below meth c s₁ Bd hml0 hP hK
  obtain ⟨rfl, hZ, hh⟩ := hP
  have hx := Bd.exec
  have hby := Bd.bytes
  have hml : c.maxLocals = 2 := hml0
  have hown : s.vm.findClass "java/util/Objects" = some m.cls := findClass_of_methodNamed Bd.named
  have hnm := (name_of_methodNamed Bd.named Bd.method).1
  have X0 : Stand p l e ({ frames := 0, cells := 0, slots := 0, locals := 0 } : Room) s m #[(.ref a), (.ref b)] below meth c s₁ [] 0 0 := Stand.of_body Bd
  have e0 : s₁.heap = h0 := by rw [← hh, Bd.state]; rfl
  have N0 := Fr.nil n0
  have KC0 : Keep h0 h0 [] := Keep.refl h0 []
  have pre0 : ∀ tgt, Steps p.tables e below (s₁.setTop (mkF m 0 #[.val (.ref a), .val (.ref b)] [])) tgt → Steps p.tables e below (s₁.setTop (entryFrame m #[(.ref a), (.ref b)] 2)) tgt := fun tgt kk => castTop (ef_rmNN m (a) (b)) kk
  obtain ⟨fs, hr, hrun, hended, hW, hsame⟩ := X0.leave (v := some (.ref a)) (fun h => by rw [Bd.returns] at h; cases h)
  refine ⟨_, _, pre0 _ ?_, hrun, hended, _, _, rfl, ?_, ⟨_, rfl⟩, hW, hsame.mono (by decide) (by decide)⟩
  · skip
    refine XS.aloadN X0.here hx rfl (hb hby d21_0) rfl rfl ?_
    show Steps p.tables e below (s₁.setTop (mkF m 1 #[.val (.ref a), .val (.ref b)] [(.ref a)])) _
    refine XT.nonnullYes X0.here hx rfl (pc0 := 1) (pc' := 13) rfl (hb hby d21_1) rfl rfl (by intro q; cases q) (by decide) (by decide) ?_
    show Steps p.tables e below (s₁.setTop (mkF m 13 #[.val (.ref a), .val (.ref b)] [])) _
    refine XS.aloadN X0.here hx rfl (hb hby d21_13) rfl rfl ?_
    show Steps p.tables e below (s₁.setTop (mkF m 14 #[.val (.ref a), .val (.ref b)] [(.ref a)])) _
    exact retOut X0 hx Bd.returns rfl (Or.inr (Or.inr (Or.inr (Or.inr ⟨rfl, rfl, rfl⟩)))) (hb hby d21_14) hr
  · show QNN Z a b h0 n0 _ s₁.heap _
    rw [e0]
    exact ⟨rfl, N0, rfl⟩
theorem d8_0 : decode jdk_29_method_66_code 0 = .ok (.lload_n 0, 1) := by decide +kernel
theorem d8_1 : decode jdk_29_method_66_code 1 = .ok (.lload_n 2, 1) := by decide +kernel
theorem d8_2 : decode jdk_29_method_66_code 2 = .ok (.lcmp, 1) := by decide +kernel
theorem d8_3 : decode jdk_29_method_66_code 3 = .ok (.ifCond .lt 7, 3) := by decide +kernel
theorem d8_6 : decode jdk_29_method_66_code 6 = .ok (.lload_n 0, 1) := by decide +kernel
theorem d8_7 : decode jdk_29_method_66_code 7 = .ok (.goto 4, 3) := by decide +kernel
theorem d8_10 : decode jdk_29_method_66_code 10 = .ok (.lload_n 2, 1) := by decide +kernel
theorem d8_11 : decode jdk_29_method_66_code 11 = .ok (.lreturn, 1) := by decide +kernel
theorem ef_rmMax (m : MethodId) (x0 : Int64) (x1 : Int64) : entryFrame m #[(.long x0), (.long x1)] 4 = mkF m 0 #[.val (.long x0), .second, .val (.long x1), .second] [] := by first | (simp [entryFrame, mkF, argsToLocals, Value.category]; done) | rfl
def QMax (Z : State) (q1 : Int64) (q2 : Int64) (h0 : Heap) (n0 : Nat) (v : Option Value) (h : Heap) (L : List Loc) : Prop := v = some (.long (if q1 < q2 then q2 else q1)) ∧ Fr n0 L ∧ h = h0
set_option maxRecDepth 65536 in
set_option maxHeartbeats 40000000 in
theorem rmMax (l : Launch) (Z : State) (a0 : Array Value) (hw : ∀ d ∈ tables_1, d.before a0 Z = true) (ws : List Jvm.Cond) (q1 : Int64) (q2 : Int64) (h0 : Heap) (n0 : Nat) (Z0 : n0 ≤ h0.size) :
    MetFree l (⟨"java/lang/Math", "max", "(JJ)J"⟩ : MethodName) (head1 (Jvm.Cond.code (⟨"java/lang/Math", "max", "(JJ)J"⟩ : MethodName) jdk_29_method_66_code 4 (some .long) :: ws) ({ frames := 0, cells := 0, slots := 0, locals := 0 } : Room)) (fun ar UU => ar = #[(.long q1), (.long q2)] ∧ Z.Warmed39 UU.vm ∧ UU.heap = h0) (fun _ _ _ _ _ => True) (fun _ UU oo UU' => ∃ vv LL, oo = .returned vv ∧ QMax Z q1 q2 h0 n0 vv UU'.heap LL ∧ FrameEnd UU oo UU' LL ({ frames := 0, cells := 0, slots := 0, locals := 0 } : Room).cells ({ frames := 0, cells := 0, slots := 0, locals := 0 } : Room).slots) := by
  refine MetFree.of_bodySF (Jvm.Free.JP.mathPlain rfl (by decide +kernel)) hisR ?_
  intro p e s m args below meth c s₁ Bd hml0 hP hK
  obtain ⟨rfl, hZ, hh⟩ := hP
  have hx := Bd.exec
  have hby := Bd.bytes
  have hml : c.maxLocals = 4 := hml0
  have hown : s.vm.findClass "java/lang/Math" = some m.cls := findClass_of_methodNamed Bd.named
  have hnm := (name_of_methodNamed Bd.named Bd.method).1
  have X0 : Stand p l e ({ frames := 0, cells := 0, slots := 0, locals := 0 } : Room) s m #[(.long q1), (.long q2)] below meth c s₁ [] 0 0 := Stand.of_body Bd
  have e0 : s₁.heap = h0 := by rw [← hh, Bd.state]; rfl
  have N0 := Fr.nil n0
  have KC0 : Keep h0 h0 [] := Keep.refl h0 []
  have pre0 : ∀ tgt, Steps p.tables e below (s₁.setTop (mkF m 0 #[.val (.long q1), .second, .val (.long q2), .second] [])) tgt → Steps p.tables e below (s₁.setTop (entryFrame m #[(.long q1), (.long q2)] 4)) tgt := fun tgt kk => castTop (ef_rmMax m (q1) (q2)) kk
  have pre1 : ∀ tgt, Steps p.tables e below (s₁.setTop (mkF m 3 #[.val (.long q1), .second, .val (.long q2), .second] [(.int (lcmpW q1 q2))])) tgt → Steps p.tables e below (s₁.setTop (entryFrame m #[(.long q1), (.long q2)] 4)) tgt := by
    intro tgt kk
    refine pre0 tgt ?_
    refine XS.lloadN X0.here hx rfl (hb hby d8_0) rfl ?_
    show Steps p.tables e below (s₁.setTop (mkF m 1 #[.val (.long q1), .second, .val (.long q2), .second] [(.long q1)])) _
    refine XS.lloadN X0.here hx rfl (hb hby d8_1) rfl ?_
    show Steps p.tables e below (s₁.setTop (mkF m 2 #[.val (.long q1), .second, .val (.long q2), .second] [(.long q2), (.long q1)])) _
    refine XS.lcmp X0.here hx rfl (hb hby d8_2) rfl ?_
    show Steps p.tables e below (s₁.setTop (mkF m 3 #[.val (.long q1), .second, .val (.long q2), .second] [(.int (lcmpW q1 q2))])) _
    exact kk
  by_cases hc3_2 : q1 < q2
  · skip
    obtain ⟨fs, hr, hrun, hended, hW, hsame⟩ := X0.leave (v := some (.long q2)) (fun h => by rw [Bd.returns] at h; cases h)
    refine ⟨_, _, pre1 _ ?_, hrun, hended, _, _, rfl, ?_, ⟨_, rfl⟩, hW, hsame.mono (by decide) (by decide)⟩
    · skip
      refine XS.ifYes X0.here hx rfl (pc0 := 3) (pc' := 10) rfl (hb hby d8_3) rfl (XT.ll_lt_t hc3_2) (by decide) (by decide) ?_
      show Steps p.tables e below (s₁.setTop (mkF m 10 #[.val (.long q1), .second, .val (.long q2), .second] [])) _
      refine XS.lloadN X0.here hx rfl (hb hby d8_10) rfl ?_
      show Steps p.tables e below (s₁.setTop (mkF m 11 #[.val (.long q1), .second, .val (.long q2), .second] [(.long q2)])) _
      exact retOut X0 hx Bd.returns rfl (Or.inr (Or.inl ⟨rfl, rfl, _, rfl⟩)) (hb hby d8_11) hr
    · show QMax Z q1 q2 h0 n0 _ s₁.heap _
      rw [e0]
      exact ⟨by simp [hc3_2], N0, rfl⟩
  · skip
    obtain ⟨fs, hr, hrun, hended, hW, hsame⟩ := X0.leave (v := some (.long q1)) (fun h => by rw [Bd.returns] at h; cases h)
    refine ⟨_, _, pre1 _ ?_, hrun, hended, _, _, rfl, ?_, ⟨_, rfl⟩, hW, hsame.mono (by decide) (by decide)⟩
    · skip
      refine XS.ifNo X0.here hx rfl (hb hby d8_3) rfl (XT.ll_lt_f hc3_2) ?_
      show Steps p.tables e below (s₁.setTop (mkF m 6 #[.val (.long q1), .second, .val (.long q2), .second] [])) _
      refine XS.lloadN X0.here hx rfl (hb hby d8_6) rfl ?_
      show Steps p.tables e below (s₁.setTop (mkF m 7 #[.val (.long q1), .second, .val (.long q2), .second] [(.long q1)])) _
      refine XS.goto X0.here hx rfl (pc0 := 7) (pc' := 11) rfl (hb hby d8_7) (by decide) (by decide) ?_
      show Steps p.tables e below (s₁.setTop (mkF m 11 #[.val (.long q1), .second, .val (.long q2), .second] [(.long q1)])) _
      exact retOut X0 hx Bd.returns rfl (Or.inr (Or.inl ⟨rfl, rfl, _, rfl⟩)) (hb hby d8_11) hr
    · show QMax Z q1 q2 h0 n0 _ s₁.heap _
      rw [e0]
      exact ⟨by simp [hc3_2], N0, rfl⟩
theorem d9_0 : decode prog_13_method_1_code 0 = .ok (.aload_n 0, 1) := by decide +kernel
theorem d9_1 : decode prog_13_method_1_code 1 = .ok (.invokespecial 1, 3) := by decide +kernel
theorem d9_4 : decode prog_13_method_1_code 4 = .ok (.aload_n 1, 1) := by decide +kernel
theorem d9_5 : decode prog_13_method_1_code 5 = .ok (.invokestatic 7, 3) := by decide +kernel
theorem d9_8 : decode prog_13_method_1_code 8 = .ok (.ifCond .ne 13, 3) := by decide +kernel
theorem d9_21 : decode prog_13_method_1_code 21 = .ok (.lload 8, 2) := by decide +kernel
theorem d9_23 : decode prog_13_method_1_code 23 = .ok (.invokestatic 20, 3) := by decide +kernel
theorem d9_26 : decode prog_13_method_1_code 26 = .ok (.ifCond .ne 28, 3) := by decide +kernel
theorem d9_54 : decode prog_13_method_1_code 54 = .ok (.aload_n 0, 1) := by decide +kernel
theorem d9_55 : decode prog_13_method_1_code 55 = .ok (.aload_n 1, 1) := by decide +kernel
theorem d9_56 : decode prog_13_method_1_code 56 = .ok (.putfield 38, 3) := by decide +kernel
theorem d9_59 : decode prog_13_method_1_code 59 = .ok (.aload_n 0, 1) := by decide +kernel
theorem d9_60 : decode prog_13_method_1_code 60 = .ok (.aload_n 2, 1) := by decide +kernel
theorem d9_61 : decode prog_13_method_1_code 61 = .ok (.ldc 42, 2) := by decide +kernel
theorem d9_63 : decode prog_13_method_1_code 63 = .ok (.invokestatic 44, 3) := by decide +kernel
theorem d9_66 : decode prog_13_method_1_code 66 = .ok (.checkcast 33, 3) := by decide +kernel
theorem d9_69 : decode prog_13_method_1_code 69 = .ok (.putfield 50, 3) := by decide +kernel
theorem d9_72 : decode prog_13_method_1_code 72 = .ok (.aload_n 0, 1) := by decide +kernel
theorem d9_73 : decode prog_13_method_1_code 73 = .ok (.aload_n 3, 1) := by decide +kernel
theorem d9_74 : decode prog_13_method_1_code 74 = .ok (.ldc 53, 2) := by decide +kernel
theorem d9_76 : decode prog_13_method_1_code 76 = .ok (.invokestatic 44, 3) := by decide +kernel
theorem d9_79 : decode prog_13_method_1_code 79 = .ok (.checkcast 33, 3) := by decide +kernel
theorem d9_82 : decode prog_13_method_1_code 82 = .ok (.putfield 55, 3) := by decide +kernel
theorem d9_85 : decode prog_13_method_1_code 85 = .ok (.aload_n 0, 1) := by decide +kernel
theorem d9_86 : decode prog_13_method_1_code 86 = .ok (.aload 4, 2) := by decide +kernel
theorem d9_88 : decode prog_13_method_1_code 88 = .ok (.ldc 58, 2) := by decide +kernel
theorem d9_90 : decode prog_13_method_1_code 90 = .ok (.invokestatic 44, 3) := by decide +kernel
theorem d9_93 : decode prog_13_method_1_code 93 = .ok (.checkcast 33, 3) := by decide +kernel
theorem d9_96 : decode prog_13_method_1_code 96 = .ok (.putfield 60, 3) := by decide +kernel
theorem d9_99 : decode prog_13_method_1_code 99 = .ok (.aload_n 0, 1) := by decide +kernel
theorem d9_100 : decode prog_13_method_1_code 100 = .ok (.aload 5, 2) := by decide +kernel
theorem d9_102 : decode prog_13_method_1_code 102 = .ok (.ldc 63, 2) := by decide +kernel
theorem d9_104 : decode prog_13_method_1_code 104 = .ok (.invokestatic 44, 3) := by decide +kernel
theorem d9_107 : decode prog_13_method_1_code 107 = .ok (.checkcast 33, 3) := by decide +kernel
theorem d9_110 : decode prog_13_method_1_code 110 = .ok (.putfield 65, 3) := by decide +kernel
theorem d9_113 : decode prog_13_method_1_code 113 = .ok (.aload_n 0, 1) := by decide +kernel
theorem d9_114 : decode prog_13_method_1_code 114 = .ok (.lload 6, 2) := by decide +kernel
theorem d9_116 : decode prog_13_method_1_code 116 = .ok (.putfield 68, 3) := by decide +kernel
theorem d9_119 : decode prog_13_method_1_code 119 = .ok (.aload_n 0, 1) := by decide +kernel
theorem d9_120 : decode prog_13_method_1_code 120 = .ok (.lload 8, 2) := by decide +kernel
theorem d9_122 : decode prog_13_method_1_code 122 = .ok (.putfield 72, 3) := by decide +kernel
theorem d9_125 : decode prog_13_method_1_code 125 = .ok (.return_, 1) := by decide +kernel
theorem pn_9 : plainName "com/example/leasehold/leasehold/LeaseRequest" = true := by first | (simp [plainName, overriddenIn]; done) | decide +kernel
theorem pd__Ljava_lang_String__Z : parseMethodDescriptor "(Ljava/lang/String;)Z" = some ⟨[(.object "java/lang/String")], some .boolean⟩ := by decide +kernel
theorem pd__J_Z : parseMethodDescriptor "(J)Z" = some ⟨[.long], some .boolean⟩ := by decide +kernel
theorem pd__Ljava_lang_Object_Ljava_lang_String__Ljava_lang_Object_ : parseMethodDescriptor "(Ljava/lang/Object;Ljava/lang/String;)Ljava/lang/Object;" = some ⟨[(.object "java/lang/Object"), (.object "java/lang/String")], some (.object "java/lang/Object")⟩ := by decide +kernel
theorem ef_rmC (m : MethodId) (x0 : Addr) (x1 : Addr) (x2 : Addr) (x3 : Addr) (x4 : Addr) (x5 : Addr) (x6 : Int64) (x7 : Int64) : entryFrame m #[(.ref x0), (.ref x1), (.ref x2), (.ref x3), (.ref x4), (.ref x5), (.long x6), (.long x7)] 10 = mkF m 0 #[.val (.ref x0), .val (.ref x1), .val (.ref x2), .val (.ref x3), .val (.ref x4), .val (.ref x5), .val (.long x6), .second, .val (.long x7), .second] [] := by first | (simp [entryFrame, mkF, argsToLocals, Value.category]; done) | rfl
def QC (Z : State) (a : Addr) (x : Addr) (t : Addr) (k : ClassId) (c0 : Int32) (z0 : Int32) (aI : Addr) (aA : Addr) (clA : Cell) (y1 : Addr) (y2 : Addr) (y3 : Addr) (y4 : Addr) (q1 : Int64) (q2 : Int64) (h0 : Heap) (n0 : Nat) (v : Option Value) (h : Heap) (L : List Loc) : Prop := v = none ∧ Fr n0 L ∧ Keep h0 h [a] ∧ Fld Z h a "com/example/leasehold/leasehold/LeaseRequest" "holder" "Ljava/lang/String;" (.ref x) ∧ Fld Z h a "com/example/leasehold/leasehold/LeaseRequest" "actor" "Ljava/lang/String;" (.ref y1) ∧ Fld Z h a "com/example/leasehold/leasehold/LeaseRequest" "intent" "Ljava/lang/String;" (.ref y2) ∧ Fld Z h a "com/example/leasehold/leasehold/LeaseRequest" "intentVersion" "Ljava/lang/String;" (.ref y3) ∧ Fld Z h a "com/example/leasehold/leasehold/LeaseRequest" "hostId" "Ljava/lang/String;" (.ref y4) ∧ Fld Z h a "com/example/leasehold/leasehold/LeaseRequest" "pid" "J" (.long q1) ∧ Fld Z h a "com/example/leasehold/leasehold/LeaseRequest" "ttlSeconds" "J" (.long q2)
set_option maxRecDepth 65536 in
set_option maxHeartbeats 40000000 in
theorem rmC (l : Launch) (Z : State) (a0 : Array Value) (hw : ∀ d ∈ tables_1, d.before a0 Z = true) (ws : List Jvm.Cond) (a : Addr) (x : Addr) (t : Addr) (k : ClassId) (c0 : Int32) (z0 : Int32) (aI : Addr) (aA : Addr) (clA : Cell) (y1 : Addr) (y2 : Addr) (y3 : Addr) (y4 : Addr) (q1 : Int64) (q2 : Int64) (h0 : Heap) (n0 : Nat) (Z0 : n0 ≤ h0.size) (E_a : Exa Z h0 a "com/example/leasehold/leasehold/LeaseRequest") (F_0 : Fld Z h0 a "com/example/leasehold/leasehold/LeaseRequest" "holder" "Ljava/lang/String;" .null) (F_1 : Fld Z h0 a "com/example/leasehold/leasehold/LeaseRequest" "actor" "Ljava/lang/String;" .null) (F_2 : Fld Z h0 a "com/example/leasehold/leasehold/LeaseRequest" "intent" "Ljava/lang/String;" .null) (F_3 : Fld Z h0 a "com/example/leasehold/leasehold/LeaseRequest" "intentVersion" "Ljava/lang/String;" .null) (F_4 : Fld Z h0 a "com/example/leasehold/leasehold/LeaseRequest" "hostId" "Ljava/lang/String;" .null) (F_5 : Fld Z h0 a "com/example/leasehold/leasehold/LeaseRequest" "pid" "J" (.long (0 : Int64))) (F_6 : Fld Z h0 a "com/example/leasehold/leasehold/LeaseRequest" "ttlSeconds" "J" (.long (0 : Int64))) (S_CS : Sta Z h0 "java/lang/String" "COMPACT_STRINGS" "Z" (.int z0)) (E_x : Exa Z h0 x "java/lang/String") (Fv_x : Fld Z h0 x "java/lang/String" "value" "[B" (.ref t)) (Fc_x : Fld Z h0 x "java/lang/String" "coder" "B" (.int (0 : Int32))) (V_x : Arv Z h0 t k .byte (2 : Int32) ((([c0, (72 : Int32)] : List Int32).map (fun c => c.toInt8.toInt32)).map Value.int) (.int (0 : Int32))) (S_A : Sta Z h0 "java/lang/CharacterDataLatin1" "A" "[I" (.ref aA)) (S_I : Sta Z h0 "java/lang/CharacterDataLatin1" "instance" "Ljava/lang/CharacterDataLatin1;" (.ref aI)) (E_I : Exa Z h0 aI "java/lang/CharacterDataLatin1") (Tb : Tab Z h0 aA clA .int (256 : Int32)) (h72 : ¬ (((atv clA (72 : Int32)) &&& (28672 : Int32)) = (16384 : Int32))) (hp0 : ¬ c0 < 0 ∧ ¬ (255 : Int32) < c0) (hz : ¬ z0 = 0) (E_y1 : Exa Z h0 y1 "java/lang/String") (E_y2 : Exa Z h0 y2 "java/lang/String") (E_y3 : Exa Z h0 y3 "java/lang/String") (E_y4 : Exa Z h0 y4 "java/lang/String") (g_a : n0 ≤ a) (hq : ¬ (q2 < (1 : Int64))) :
    MetFree l (⟨"com/example/leasehold/leasehold/LeaseRequest", "<init>", "(Ljava/lang/String;Ljava/lang/String;Ljava/lang/String;Ljava/lang/String;Ljava/lang/String;JJ)V"⟩ : MethodName) (head1 (Jvm.Cond.code (⟨"com/example/leasehold/leasehold/LeaseRequest", "<init>", "(Ljava/lang/String;Ljava/lang/String;Ljava/lang/String;Ljava/lang/String;Ljava/lang/String;JJ)V"⟩ : MethodName) prog_13_method_1_code 10 none :: ws) ({ frames := 6, cells := 8, slots := 416, locals := 82 } : Room)) (fun ar UU => ar = #[(.ref a), (.ref x), (.ref y1), (.ref y2), (.ref y3), (.ref y4), (.long q1), (.long q2)] ∧ Z.Warmed39 UU.vm ∧ UU.heap = h0) (fun _ _ _ _ _ => True) (fun _ UU oo UU' => ∃ vv LL, oo = .returned vv ∧ QC Z a x t k c0 z0 aI aA clA y1 y2 y3 y4 q1 q2 h0 n0 vv UU'.heap LL ∧ ReturnedEndW UU oo UU' LL ({ frames := 6, cells := 8, slots := 416, locals := 82 } : Room).cells ({ frames := 6, cells := 8, slots := 416, locals := 82 } : Room).slots) := by
  refine MetFree.of_bodySF (plainFor_of_name pn_9) hisR ?_
  intro p e s m args below meth c s₁ Bd hml0 hP hK
  obtain ⟨rfl, hZ, hh⟩ := hP
  have hx := Bd.exec
  have hby := Bd.bytes
  have hml : c.maxLocals = 10 := hml0
  have hown : s.vm.findClass "com/example/leasehold/leasehold/LeaseRequest" = some m.cls := findClass_of_methodNamed Bd.named
  have hnm := (name_of_methodNamed Bd.named Bd.method).1
  have X0 : Stand p l e ({ frames := 6, cells := 8, slots := 416, locals := 82 } : Room) s m #[(.ref a), (.ref x), (.ref y1), (.ref y2), (.ref y3), (.ref y4), (.long q1), (.long q2)] below meth c s₁ [] 0 0 := Stand.of_body Bd
  have e0 : s₁.heap = h0 := by rw [← hh, Bd.state]; rfl
  have N0 := Fr.nil n0
  have KC0 : Keep h0 h0 [a] := Keep.refl h0 [a]
  have pre0 : ∀ tgt, Steps p.tables e below (s₁.setTop (mkF m 0 #[.val (.ref a), .val (.ref x), .val (.ref y1), .val (.ref y2), .val (.ref y3), .val (.ref y4), .val (.long q1), .second, .val (.long q2), .second] [])) tgt → Steps p.tables e below (s₁.setTop (entryFrame m #[(.ref a), (.ref x), (.ref y1), (.ref y2), (.ref y3), (.ref y4), (.long q1), (.long q2)] 10)) tgt := fun tgt kk => castTop (ef_rmC m (a) (x) (y1) (y2) (y3) (y4) (q1) (q2)) kk
  have pre1 : ∀ tgt, Steps p.tables e below (s₁.setTop (mkF m 1 #[.val (.ref a), .val (.ref x), .val (.ref y1), .val (.ref y2), .val (.ref y3), .val (.ref y4), .val (.long q1), .second, .val (.long q2), .second] [(.ref a)])) tgt → Steps p.tables e below (s₁.setTop (entryFrame m #[(.ref a), (.ref x), (.ref y1), (.ref y2), (.ref y3), (.ref y4), (.long q1), (.long q2)] 10)) tgt := by
    intro tgt kk
    refine pre0 tgt ?_
    refine XS.aloadN X0.here hx rfl (hb hby d9_0) rfl rfl ?_
    show Steps p.tables e below (s₁.setTop (mkF m 1 #[.val (.ref a), .val (.ref x), .val (.ref y1), .val (.ref y2), .val (.ref y3), .val (.ref y4), .val (.long q1), .second, .val (.long q2), .second] [(.ref a)])) _
    exact kk
  obtain ⟨T2, X2, e2, st2⟩ := initO X0 hx hZ hown (hw _ (List.mem_of_getElem? (i := 44) rfl)) (hw _ (List.mem_of_getElem? (i := 16) rfl)) (hw _ (List.mem_of_getElem? (i := 17) rfl)) e0 (g := (mkF m 1 #[.val (.ref a), .val (.ref x), .val (.ref y1), .val (.ref y2), .val (.ref y3), .val (.ref y4), .val (.long q1), .second, .val (.long q2), .second] [(.ref a)])) rfl (by rw [hml]; rfl) rfl (hb hby d9_1) (by decide) (W := 0) (by show 2 * 0 + _ ≤ _; exact Nat.le_of_eq rfl) (by decide)
  have pre3 : ∀ tgt, Steps p.tables e below (T2.setTop (mkF m 5 #[.val (.ref a), .val (.ref x), .val (.ref y1), .val (.ref y2), .val (.ref y3), .val (.ref y4), .val (.long q1), .second, .val (.long q2), .second] [(.ref x)])) tgt → Steps p.tables e below (s₁.setTop (entryFrame m #[(.ref a), (.ref x), (.ref y1), (.ref y2), (.ref y3), (.ref y4), (.long q1), (.long q2)] 10)) tgt := by
    intro tgt kk
    refine pre1 tgt ?_
    refine st2 _ ?_
    show Steps p.tables e below (T2.setTop (mkF m 4 #[.val (.ref a), .val (.ref x), .val (.ref y1), .val (.ref y2), .val (.ref y3), .val (.ref y4), .val (.long q1), .second, .val (.long q2), .second] [])) _
    refine XS.aloadN X2.here hx rfl (hb hby d9_4) rfl rfl ?_
    show Steps p.tables e below (T2.setTop (mkF m 5 #[.val (.ref a), .val (.ref x), .val (.ref y1), .val (.ref y2), .val (.ref y3), .val (.ref y4), .val (.long q1), .second, .val (.long q2), .second] [(.ref x)])) _
    exact kk
  obtain ⟨_, _, ⟨T4, L4, k4, n4⟩, -, X4, ⟨Lc4, hQ4, l4, y4, z4⟩, st4⟩ := Jvm.LawKit.callS X2 hx (y := (⟨"com/example/leasehold/leasehold/LeaseRequest", "isValidHolder", "(Ljava/lang/String;)Z"⟩ : MethodName)) hown (mvT hZ (hw _ (List.mem_of_getElem? (i := 45) rfl))) (mvT hZ (hw _ (List.mem_of_getElem? (i := 46) rfl))) (mvT hZ (hw _ (List.mem_of_getElem? (i := 36) rfl))) (mvT hZ (hw _ (List.mem_of_getElem? (i := 47) rfl))) (by decide) (backOf (W := 0) (rmVH l Z a0 hw [] x t k c0 z0 aI aA clA h0 n0 Z0 S_CS E_x Fv_x Fc_x V_x S_A S_I E_I Tb h72 hp0 hz) hZ (hw _ (List.mem_of_getElem? (i := 47) rfl)) (hw _ (List.mem_of_getElem? (i := 36) rfl)) (by decide) (by decide)) (g := (mkF m 5 #[.val (.ref a), .val (.ref x), .val (.ref y1), .val (.ref y2), .val (.ref y3), .val (.ref y4), .val (.long q1), .second, .val (.long q2), .second] [(.ref x)])) rfl (by rw [hml]; rfl) (argsL := [(.ref x)]) (rest := []) (lenOf pd__Ljava_lang_String__Z rfl) rfl (by show 2 * 0 + _ ≤ _; exact Nat.le_of_eq rfl) (hb hby d9_5) (fun _ _ => ⟨rfl, e2, (by decide : 0 + 0 ≤ _), (by decide : 0 + 0 ≤ _)⟩)
  dsimp only [Pt.U, Pt.locs, Pt.cells, Pt.slots] at X4 l4 y4 z4 st4 hQ4
  subst l4 y4 z4
  obtain ⟨rfl, N4q, hh4⟩ := hQ4
  have N4 := Fr.app N0 N4q
  have pre5 : ∀ tgt, Steps p.tables e below (T4.setTop (mkF m 23 #[.val (.ref a), .val (.ref x), .val (.ref y1), .val (.ref y2), .val (.ref y3), .val (.ref y4), .val (.long q1), .second, .val (.long q2), .second] [(.long q2)])) tgt → Steps p.tables e below (s₁.setTop (entryFrame m #[(.ref a), (.ref x), (.ref y1), (.ref y2), (.ref y3), (.ref y4), (.long q1), (.long q2)] 10)) tgt := by
    intro tgt kk
    refine pre3 tgt ?_
    refine st4 _ ?_
    show Steps p.tables e below (T4.setTop (mkF m 8 #[.val (.ref a), .val (.ref x), .val (.ref y1), .val (.ref y2), .val (.ref y3), .val (.ref y4), .val (.long q1), .second, .val (.long q2), .second] [(.int (1 : Int32))])) _
    refine XS.ifYes X4.here hx rfl (pc0 := 8) (pc' := 21) rfl (hb hby d9_8) rfl (XT.i0_ne_t (by decide)) (by decide) (by decide) ?_
    show Steps p.tables e below (T4.setTop (mkF m 21 #[.val (.ref a), .val (.ref x), .val (.ref y1), .val (.ref y2), .val (.ref y3), .val (.ref y4), .val (.long q1), .second, .val (.long q2), .second] [])) _
    refine XS.lload X4.here hx rfl (hb hby d9_21) rfl ?_
    show Steps p.tables e below (T4.setTop (mkF m 23 #[.val (.ref a), .val (.ref x), .val (.ref y1), .val (.ref y2), .val (.ref y3), .val (.ref y4), .val (.long q1), .second, .val (.long q2), .second] [(.long q2)])) _
    exact kk
  obtain ⟨_, _, ⟨T6, L6, k6, n6⟩, -, X6, ⟨Lc6, hQ6, l6, y6, z6⟩, st6⟩ := Jvm.LawKit.callS X4 hx (y := (⟨"com/example/leasehold/leasehold/LeaseRequest", "isValidTtl", "(J)Z"⟩ : MethodName)) hown (mvT hZ (hw _ (List.mem_of_getElem? (i := 93) rfl))) (mvT hZ (hw _ (List.mem_of_getElem? (i := 94) rfl))) (mvT hZ (hw _ (List.mem_of_getElem? (i := 36) rfl))) (mvT hZ (hw _ (List.mem_of_getElem? (i := 95) rfl))) (by decide) (backOf (W := 0) (rmVT l Z a0 hw [] q2 h0 n0 Z0 hq) hZ (hw _ (List.mem_of_getElem? (i := 95) rfl)) (hw _ (List.mem_of_getElem? (i := 36) rfl)) (by decide) (by decide)) (g := (mkF m 23 #[.val (.ref a), .val (.ref x), .val (.ref y1), .val (.ref y2), .val (.ref y3), .val (.ref y4), .val (.long q1), .second, .val (.long q2), .second] [(.long q2)])) rfl (by rw [hml]; rfl) (argsL := [(.long q2)]) (rest := []) (lenOf pd__J_Z rfl) rfl (by show 2 * 0 + _ ≤ _; exact Nat.le_of_eq rfl) (hb hby d9_23) (fun _ _ => ⟨rfl, hh4, (by decide : 0 + 0 ≤ _), (by decide : 0 + 0 ≤ _)⟩)
  dsimp only [Pt.U, Pt.locs, Pt.cells, Pt.slots] at X6 l6 y6 z6 st6 hQ6
  subst l6 y6 z6
  obtain ⟨rfl, N6q, hh6⟩ := hQ6
  have N6 := Fr.app N4 N6q
  have pre7 : ∀ tgt, Steps p.tables e below (T6.setTop (mkF m 56 #[.val (.ref a), .val (.ref x), .val (.ref y1), .val (.ref y2), .val (.ref y3), .val (.ref y4), .val (.long q1), .second, .val (.long q2), .second] [(.ref x), (.ref a)])) tgt → Steps p.tables e below (s₁.setTop (entryFrame m #[(.ref a), (.ref x), (.ref y1), (.ref y2), (.ref y3), (.ref y4), (.long q1), (.long q2)] 10)) tgt := by
    intro tgt kk
    refine pre5 tgt ?_
    refine st6 _ ?_
    show Steps p.tables e below (T6.setTop (mkF m 26 #[.val (.ref a), .val (.ref x), .val (.ref y1), .val (.ref y2), .val (.ref y3), .val (.ref y4), .val (.long q1), .second, .val (.long q2), .second] [(.int (1 : Int32))])) _
    refine XS.ifYes X6.here hx rfl (pc0 := 26) (pc' := 54) rfl (hb hby d9_26) rfl (XT.i0_ne_t (by decide)) (by decide) (by decide) ?_
    show Steps p.tables e below (T6.setTop (mkF m 54 #[.val (.ref a), .val (.ref x), .val (.ref y1), .val (.ref y2), .val (.ref y3), .val (.ref y4), .val (.long q1), .second, .val (.long q2), .second] [])) _
    refine XS.aloadN X6.here hx rfl (hb hby d9_54) rfl rfl ?_
    show Steps p.tables e below (T6.setTop (mkF m 55 #[.val (.ref a), .val (.ref x), .val (.ref y1), .val (.ref y2), .val (.ref y3), .val (.ref y4), .val (.long q1), .second, .val (.long q2), .second] [(.ref a)])) _
    refine XS.aloadN X6.here hx rfl (hb hby d9_55) rfl rfl ?_
    show Steps p.tables e below (T6.setTop (mkF m 56 #[.val (.ref a), .val (.ref x), .val (.ref y1), .val (.ref y2), .val (.ref y3), .val (.ref y4), .val (.long q1), .second, .val (.long q2), .second] [(.ref x), (.ref a)])) _
    exact kk
  obtain ⟨T8, h8, X8, e8, W8, st8⟩ := putF X6 hx hZ hown (host := "") (Or.inl (hw _ (List.mem_of_getElem? (i := 96) rfl))) Via.refl hh6 F_0 E_a (Or.inr ⟨(hw _ (List.mem_of_getElem? (i := 97) rfl)), rfl, hnm⟩) (hw _ (List.mem_of_getElem? (i := 35) rfl)) (ty := (.object "java/lang/String")) (by decide) rfl rfl (g := (mkF m 56 #[.val (.ref a), .val (.ref x), .val (.ref y1), .val (.ref y2), .val (.ref y3), .val (.ref y4), .val (.long q1), .second, .val (.long q2), .second] [(.ref x), (.ref a)])) rfl rfl (hb hby d9_56)
  have N8 := Fr.snoc X8 N6 g_a
  have Fq8 : Fld Z h8 a "com/example/leasehold/leasehold/LeaseRequest" "holder" "Ljava/lang/String;" (.ref x) := F_0.same W8
  have E_a : Exa Z h8 a "com/example/leasehold/leasehold/LeaseRequest" := E_a.wr W8
  have F_1 : Fld Z h8 a "com/example/leasehold/leasehold/LeaseRequest" "actor" "Ljava/lang/String;" .null := F_1.other W8 (Or.inr (slot_ne (Or.inr (hw _ (List.mem_of_getElem? (i := 107) rfl))) (Or.inr (hw _ (List.mem_of_getElem? (i := 97) rfl))) (by decide) (t := (.object "java/lang/String")) (t' := (.object "java/lang/String")) (by decide) (by decide)))
  have F_2 : Fld Z h8 a "com/example/leasehold/leasehold/LeaseRequest" "intent" "Ljava/lang/String;" .null := F_2.other W8 (Or.inr (slot_ne (Or.inr (hw _ (List.mem_of_getElem? (i := 110) rfl))) (Or.inr (hw _ (List.mem_of_getElem? (i := 97) rfl))) (by decide) (t := (.object "java/lang/String")) (t' := (.object "java/lang/String")) (by decide) (by decide)))
  have F_3 : Fld Z h8 a "com/example/leasehold/leasehold/LeaseRequest" "intentVersion" "Ljava/lang/String;" .null := F_3.other W8 (Or.inr (slot_ne (Or.inr (hw _ (List.mem_of_getElem? (i := 113) rfl))) (Or.inr (hw _ (List.mem_of_getElem? (i := 97) rfl))) (by decide) (t := (.object "java/lang/String")) (t' := (.object "java/lang/String")) (by decide) (by decide)))
  have F_4 : Fld Z h8 a "com/example/leasehold/leasehold/LeaseRequest" "hostId" "Ljava/lang/String;" .null := F_4.other W8 (Or.inr (slot_ne (Or.inr (hw _ (List.mem_of_getElem? (i := 116) rfl))) (Or.inr (hw _ (List.mem_of_getElem? (i := 97) rfl))) (by decide) (t := (.object "java/lang/String")) (t' := (.object "java/lang/String")) (by decide) (by decide)))
  have F_5 : Fld Z h8 a "com/example/leasehold/leasehold/LeaseRequest" "pid" "J" (.long (0 : Int64)) := F_5.other W8 (Or.inr (slot_ne (Or.inr (hw _ (List.mem_of_getElem? (i := 118) rfl))) (Or.inr (hw _ (List.mem_of_getElem? (i := 97) rfl))) (by decide) (t := .long) (t' := (.object "java/lang/String")) (by decide) (by decide)))
  have F_6 : Fld Z h8 a "com/example/leasehold/leasehold/LeaseRequest" "ttlSeconds" "J" (.long (0 : Int64)) := F_6.other W8 (Or.inr (slot_ne (Or.inr (hw _ (List.mem_of_getElem? (i := 120) rfl))) (Or.inr (hw _ (List.mem_of_getElem? (i := 97) rfl))) (by decide) (t := .long) (t' := (.object "java/lang/String")) (by decide) (by decide)))
  have E_x : Exa Z h8 x "java/lang/String" := E_x.wr W8
  have E_y1 : Exa Z h8 y1 "java/lang/String" := E_y1.wr W8
  have E_y2 : Exa Z h8 y2 "java/lang/String" := E_y2.wr W8
  have E_y3 : Exa Z h8 y3 "java/lang/String" := E_y3.wr W8
  have E_y4 : Exa Z h8 y4 "java/lang/String" := E_y4.wr W8
  have Zs9 : n0 ≤ h8.size := Nat.le_trans Z0 (Keep.of_wr W8).1
  have KC9 : Keep h0 h8 [a] := KC0.wr W8 (Or.inl (List.mem_of_getElem? (i := 0) rfl))
  have F_0 := Fq8
  have pre10 : ∀ tgt, Steps p.tables e below (T8.setTop (mkF m 61 #[.val (.ref a), .val (.ref x), .val (.ref y1), .val (.ref y2), .val (.ref y3), .val (.ref y4), .val (.long q1), .second, .val (.long q2), .second] [(.ref y1), (.ref a)])) tgt → Steps p.tables e below (s₁.setTop (entryFrame m #[(.ref a), (.ref x), (.ref y1), (.ref y2), (.ref y3), (.ref y4), (.long q1), (.long q2)] 10)) tgt := by
    intro tgt kk
    refine pre7 tgt ?_
    refine st8 _ ?_
    show Steps p.tables e below (T8.setTop (mkF m 59 #[.val (.ref a), .val (.ref x), .val (.ref y1), .val (.ref y2), .val (.ref y3), .val (.ref y4), .val (.long q1), .second, .val (.long q2), .second] [])) _
    refine XS.aloadN X8.here hx rfl (hb hby d9_59) rfl rfl ?_
    show Steps p.tables e below (T8.setTop (mkF m 60 #[.val (.ref a), .val (.ref x), .val (.ref y1), .val (.ref y2), .val (.ref y3), .val (.ref y4), .val (.long q1), .second, .val (.long q2), .second] [(.ref a)])) _
    refine XS.aloadN X8.here hx rfl (hb hby d9_60) rfl rfl ?_
    show Steps p.tables e below (T8.setTop (mkF m 61 #[.val (.ref a), .val (.ref x), .val (.ref y1), .val (.ref y2), .val (.ref y3), .val (.ref y4), .val (.long q1), .second, .val (.long q2), .second] [(.ref y1), (.ref a)])) _
    exact kk
  have hwS : ∀ d ∈ Bundle.stringAtoms, d.before a0 Z = true := fun d hd => hw d ((by decide +kernel : ∀ d ∈ Bundle.stringAtoms, d ∈ tables_1) d hd)
  obtain ⟨lit11, T11, h11, k11, X11, e11, E11, hS11, hkl11, hZ, hown, st11⟩ := ldcS (s := s) (vm0 := s.vm) X8 hx hZ hown (hw _ (List.mem_of_getElem? (i := 98) rfl)) hwS e8 (k0 := 0) ((State.WarmedH.refl s).since 0) (Nat.zero_le _) (g := (mkF m 61 #[.val (.ref a), .val (.ref x), .val (.ref y1), .val (.ref y2), .val (.ref y3), .val (.ref y4), .val (.long q1), .second, .val (.long q2), .second] [(.ref y1), (.ref a)])) rfl (hb hby d9_61) (n := 88) (by decide +kernel) (by decide) (by decide) (by decide)
  have E_a : Exa Z h11 a "com/example/leasehold/leasehold/LeaseRequest" := E_a.ext E11
  have F_1 : Fld Z h11 a "com/example/leasehold/leasehold/LeaseRequest" "actor" "Ljava/lang/String;" .null := F_1.ext E11
  have F_2 : Fld Z h11 a "com/example/leasehold/leasehold/LeaseRequest" "intent" "Ljava/lang/String;" .null := F_2.ext E11
  have F_3 : Fld Z h11 a "com/example/leasehold/leasehold/LeaseRequest" "intentVersion" "Ljava/lang/String;" .null := F_3.ext E11
  have F_4 : Fld Z h11 a "com/example/leasehold/leasehold/LeaseRequest" "hostId" "Ljava/lang/String;" .null := F_4.ext E11
  have F_5 : Fld Z h11 a "com/example/leasehold/leasehold/LeaseRequest" "pid" "J" (.long (0 : Int64)) := F_5.ext E11
  have F_6 : Fld Z h11 a "com/example/leasehold/leasehold/LeaseRequest" "ttlSeconds" "J" (.long (0 : Int64)) := F_6.ext E11
  have E_x : Exa Z h11 x "java/lang/String" := E_x.ext E11
  have E_y1 : Exa Z h11 y1 "java/lang/String" := E_y1.ext E11
  have E_y2 : Exa Z h11 y2 "java/lang/String" := E_y2.ext E11
  have E_y3 : Exa Z h11 y3 "java/lang/String" := E_y3.ext E11
  have E_y4 : Exa Z h11 y4 "java/lang/String" := E_y4.ext E11
  have F_0 : Fld Z h11 a "com/example/leasehold/leasehold/LeaseRequest" "holder" "Ljava/lang/String;" (.ref x) := F_0.ext E11
  have Zs12 : n0 ≤ h11.size := Nat.le_trans Zs9 E11.1
  have KC12 : Keep h0 h11 [a] := KC9.ext E11
  have pre13 : ∀ tgt, Steps p.tables e below (T11.setTop (mkF m 63 #[.val (.ref a), .val (.ref x), .val (.ref y1), .val (.ref y2), .val (.ref y3), .val (.ref y4), .val (.long q1), .second, .val (.long q2), .second] [(.ref lit11), (.ref y1), (.ref a)])) tgt → Steps p.tables e below (s₁.setTop (entryFrame m #[(.ref a), (.ref x), (.ref y1), (.ref y2), (.ref y3), (.ref y4), (.long q1), (.long q2)] 10)) tgt := by
    intro tgt kk
    refine pre10 tgt ?_
    refine st11 _ ?_
    show Steps p.tables e below (T11.setTop (mkF m 63 #[.val (.ref a), .val (.ref x), .val (.ref y1), .val (.ref y2), .val (.ref y3), .val (.ref y4), .val (.long q1), .second, .val (.long q2), .second] [(.ref lit11), (.ref y1), (.ref a)])) _
    exact kk
  obtain ⟨_, _, ⟨T14, L14, k14, n14⟩, -, X14, ⟨Lc14, hQ14, l14, y14, z14⟩, st14⟩ := Jvm.LawKit.callS X11 hx (y := (⟨"java/util/Objects", "requireNonNull", "(Ljava/lang/Object;Ljava/lang/String;)Ljava/lang/Object;"⟩ : MethodName)) hown (mvT hZ (hw _ (List.mem_of_getElem? (i := 101) rfl))) (mvT hZ (hw _ (List.mem_of_getElem? (i := 102) rfl))) (mvT hZ (hw _ (List.mem_of_getElem? (i := 103) rfl))) (mvT hZ (hw _ (List.mem_of_getElem? (i := 104) rfl))) (by decide) (backOf (W := 1) (rmNN l Z a0 hw [] y1 lit11 h11 n0 Zs12) hZ (hw _ (List.mem_of_getElem? (i := 104) rfl)) (hw _ (List.mem_of_getElem? (i := 103) rfl)) (by decide) (by decide)) (g := (mkF m 63 #[.val (.ref a), .val (.ref x), .val (.ref y1), .val (.ref y2), .val (.ref y3), .val (.ref y4), .val (.long q1), .second, .val (.long q2), .second] [(.ref lit11), (.ref y1), (.ref a)])) rfl (by rw [hml]; rfl) (argsL := [(.ref y1), (.ref lit11)]) (rest := [(.ref a)]) (lenOf pd__Ljava_lang_Object_Ljava_lang_String__Ljava_lang_Object_ rfl) rfl (by show 2 * 0 + _ ≤ _; exact Nat.le_of_eq rfl) (hb hby d9_63) (fun _ _ => ⟨rfl, e11, (by decide : 2 + 0 ≤ _), (by decide : 92 + 0 ≤ _)⟩)
  dsimp only [Pt.U, Pt.locs, Pt.cells, Pt.slots] at X14 l14 y14 z14 st14 hQ14
  subst l14 y14 z14
  obtain ⟨rfl, N14q, hh14⟩ := hQ14
  have N14 := Fr.app N8 N14q
  have pre15 : ∀ tgt, Steps p.tables e below (T14.setTop (mkF m 66 #[.val (.ref a), .val (.ref x), .val (.ref y1), .val (.ref y2), .val (.ref y3), .val (.ref y4), .val (.long q1), .second, .val (.long q2), .second] [(.ref y1), (.ref a)])) tgt → Steps p.tables e below (s₁.setTop (entryFrame m #[(.ref a), (.ref x), (.ref y1), (.ref y2), (.ref y3), (.ref y4), (.long q1), (.long q2)] 10)) tgt := by
    intro tgt kk
    refine pre13 tgt ?_
    refine st14 _ ?_
    show Steps p.tables e below (T14.setTop (mkF m 66 #[.val (.ref a), .val (.ref x), .val (.ref y1), .val (.ref y2), .val (.ref y3), .val (.ref y4), .val (.long q1), .second, .val (.long q2), .second] [(.ref y1), (.ref a)])) _
    exact kk
  obtain ⟨T16, X16, e16, st16⟩ := castY X14 hx hZ hown (hw _ (List.mem_of_getElem? (i := 105) rfl)) hh14 (Ins.self E_y1) (g := (mkF m 66 #[.val (.ref a), .val (.ref x), .val (.ref y1), .val (.ref y2), .val (.ref y3), .val (.ref y4), .val (.long q1), .second, .val (.long q2), .second] [(.ref y1), (.ref a)])) rfl rfl (hb hby d9_66)
  have pre17 : ∀ tgt, Steps p.tables e below (T16.setTop (mkF m 69 #[.val (.ref a), .val (.ref x), .val (.ref y1), .val (.ref y2), .val (.ref y3), .val (.ref y4), .val (.long q1), .second, .val (.long q2), .second] [(.ref y1), (.ref a)])) tgt → Steps p.tables e below (s₁.setTop (entryFrame m #[(.ref a), (.ref x), (.ref y1), (.ref y2), (.ref y3), (.ref y4), (.long q1), (.long q2)] 10)) tgt := by
    intro tgt kk
    refine pre15 tgt ?_
    refine st16 _ ?_
    show Steps p.tables e below (T16.setTop (mkF m 69 #[.val (.ref a), .val (.ref x), .val (.ref y1), .val (.ref y2), .val (.ref y3), .val (.ref y4), .val (.long q1), .second, .val (.long q2), .second] [(.ref y1), (.ref a)])) _
    exact kk
  obtain ⟨T18, h18, X18, e18, W18, st18⟩ := putF X16 hx hZ hown (host := "") (Or.inl (hw _ (List.mem_of_getElem? (i := 106) rfl))) Via.refl e16 F_1 E_a (Or.inr ⟨(hw _ (List.mem_of_getElem? (i := 107) rfl)), rfl, hnm⟩) (hw _ (List.mem_of_getElem? (i := 35) rfl)) (ty := (.object "java/lang/String")) (by decide) rfl rfl (g := (mkF m 69 #[.val (.ref a), .val (.ref x), .val (.ref y1), .val (.ref y2), .val (.ref y3), .val (.ref y4), .val (.long q1), .second, .val (.long q2), .second] [(.ref y1), (.ref a)])) rfl rfl (hb hby d9_69)
  have N18 := Fr.snoc X18 N14 g_a
  have Fq18 : Fld Z h18 a "com/example/leasehold/leasehold/LeaseRequest" "actor" "Ljava/lang/String;" (.ref y1) := F_1.same W18
  have E_a : Exa Z h18 a "com/example/leasehold/leasehold/LeaseRequest" := E_a.wr W18
  have F_2 : Fld Z h18 a "com/example/leasehold/leasehold/LeaseRequest" "intent" "Ljava/lang/String;" .null := F_2.other W18 (Or.inr (slot_ne (Or.inr (hw _ (List.mem_of_getElem? (i := 110) rfl))) (Or.inr (hw _ (List.mem_of_getElem? (i := 107) rfl))) (by decide) (t := (.object "java/lang/String")) (t' := (.object "java/lang/String")) (by decide) (by decide)))
  have F_3 : Fld Z h18 a "com/example/leasehold/leasehold/LeaseRequest" "intentVersion" "Ljava/lang/String;" .null := F_3.other W18 (Or.inr (slot_ne (Or.inr (hw _ (List.mem_of_getElem? (i := 113) rfl))) (Or.inr (hw _ (List.mem_of_getElem? (i := 107) rfl))) (by decide) (t := (.object "java/lang/String")) (t' := (.object "java/lang/String")) (by decide) (by decide)))
  have F_4 : Fld Z h18 a "com/example/leasehold/leasehold/LeaseRequest" "hostId" "Ljava/lang/String;" .null := F_4.other W18 (Or.inr (slot_ne (Or.inr (hw _ (List.mem_of_getElem? (i := 116) rfl))) (Or.inr (hw _ (List.mem_of_getElem? (i := 107) rfl))) (by decide) (t := (.object "java/lang/String")) (t' := (.object "java/lang/String")) (by decide) (by decide)))
  have F_5 : Fld Z h18 a "com/example/leasehold/leasehold/LeaseRequest" "pid" "J" (.long (0 : Int64)) := F_5.other W18 (Or.inr (slot_ne (Or.inr (hw _ (List.mem_of_getElem? (i := 118) rfl))) (Or.inr (hw _ (List.mem_of_getElem? (i := 107) rfl))) (by decide) (t := .long) (t' := (.object "java/lang/String")) (by decide) (by decide)))
  have F_6 : Fld Z h18 a "com/example/leasehold/leasehold/LeaseRequest" "ttlSeconds" "J" (.long (0 : Int64)) := F_6.other W18 (Or.inr (slot_ne (Or.inr (hw _ (List.mem_of_getElem? (i := 120) rfl))) (Or.inr (hw _ (List.mem_of_getElem? (i := 107) rfl))) (by decide) (t := .long) (t' := (.object "java/lang/String")) (by decide) (by decide)))
  have E_x : Exa Z h18 x "java/lang/String" := E_x.wr W18
  have E_y1 : Exa Z h18 y1 "java/lang/String" := E_y1.wr W18
  have E_y2 : Exa Z h18 y2 "java/lang/String" := E_y2.wr W18
  have E_y3 : Exa Z h18 y3 "java/lang/String" := E_y3.wr W18
  have E_y4 : Exa Z h18 y4 "java/lang/String" := E_y4.wr W18
  have F_0 : Fld Z h18 a "com/example/leasehold/leasehold/LeaseRequest" "holder" "Ljava/lang/String;" (.ref x) := F_0.other W18 (Or.inr (slot_ne (Or.inr (hw _ (List.mem_of_getElem? (i := 97) rfl))) (Or.inr (hw _ (List.mem_of_getElem? (i := 107) rfl))) (by decide) (t := (.object "java/lang/String")) (t' := (.object "java/lang/String")) (by decide) (by decide)))
  have Zs19 : n0 ≤ h18.size := Nat.le_trans Zs12 (Keep.of_wr W18).1
  have hk19 : k11 ≤ h18.size := Nat.le_trans hkl11 (Keep.of_wr W18).1
  have KC19 : Keep h0 h18 [a] := KC12.wr W18 (Or.inl (List.mem_of_getElem? (i := 0) rfl))
  have F_1 := Fq18
  have pre20 : ∀ tgt, Steps p.tables e below (T18.setTop (mkF m 74 #[.val (.ref a), .val (.ref x), .val (.ref y1), .val (.ref y2), .val (.ref y3), .val (.ref y4), .val (.long q1), .second, .val (.long q2), .second] [(.ref y2), (.ref a)])) tgt → Steps p.tables e below (s₁.setTop (entryFrame m #[(.ref a), (.ref x), (.ref y1), (.ref y2), (.ref y3), (.ref y4), (.long q1), (.long q2)] 10)) tgt := by
    intro tgt kk
    refine pre17 tgt ?_
    refine st18 _ ?_
    show Steps p.tables e below (T18.setTop (mkF m 72 #[.val (.ref a), .val (.ref x), .val (.ref y1), .val (.ref y2), .val (.ref y3), .val (.ref y4), .val (.long q1), .second, .val (.long q2), .second] [])) _
    refine XS.aloadN X18.here hx rfl (hb hby d9_72) rfl rfl ?_
    show Steps p.tables e below (T18.setTop (mkF m 73 #[.val (.ref a), .val (.ref x), .val (.ref y1), .val (.ref y2), .val (.ref y3), .val (.ref y4), .val (.long q1), .second, .val (.long q2), .second] [(.ref a)])) _
    refine XS.aloadN X18.here hx rfl (hb hby d9_73) rfl rfl ?_
    show Steps p.tables e below (T18.setTop (mkF m 74 #[.val (.ref a), .val (.ref x), .val (.ref y1), .val (.ref y2), .val (.ref y3), .val (.ref y4), .val (.long q1), .second, .val (.long q2), .second] [(.ref y2), (.ref a)])) _
    exact kk
  have hwS : ∀ d ∈ Bundle.stringAtoms, d.before a0 Z = true := fun d hd => hw d ((by decide +kernel : ∀ d ∈ Bundle.stringAtoms, d ∈ tables_1) d hd)
  obtain ⟨lit21, T21, h21, k21, X21, e21, E21, hS21, hkl21, hZ, hown, st21⟩ := ldcS (s := s) (vm0 := T11.vm) X18 hx hZ hown (hw _ (List.mem_of_getElem? (i := 108) rfl)) hwS e18 (k0 := k11) hS11 hk19 (g := (mkF m 74 #[.val (.ref a), .val (.ref x), .val (.ref y1), .val (.ref y2), .val (.ref y3), .val (.ref y4), .val (.long q1), .second, .val (.long q2), .second] [(.ref y2), (.ref a)])) rfl (hb hby d9_74) (n := 92) (by decide +kernel) (by decide) (by decide) (by decide)
  have E_a : Exa Z h21 a "com/example/leasehold/leasehold/LeaseRequest" := E_a.ext E21
  have F_2 : Fld Z h21 a "com/example/leasehold/leasehold/LeaseRequest" "intent" "Ljava/lang/String;" .null := F_2.ext E21
  have F_3 : Fld Z h21 a "com/example/leasehold/leasehold/LeaseRequest" "intentVersion" "Ljava/lang/String;" .null := F_3.ext E21
  have F_4 : Fld Z h21 a "com/example/leasehold/leasehold/LeaseRequest" "hostId" "Ljava/lang/String;" .null := F_4.ext E21
  have F_5 : Fld Z h21 a "com/example/leasehold/leasehold/LeaseRequest" "pid" "J" (.long (0 : Int64)) := F_5.ext E21
  have F_6 : Fld Z h21 a "com/example/leasehold/leasehold/LeaseRequest" "ttlSeconds" "J" (.long (0 : Int64)) := F_6.ext E21
  have E_x : Exa Z h21 x "java/lang/String" := E_x.ext E21
  have E_y1 : Exa Z h21 y1 "java/lang/String" := E_y1.ext E21
  have E_y2 : Exa Z h21 y2 "java/lang/String" := E_y2.ext E21
  have E_y3 : Exa Z h21 y3 "java/lang/String" := E_y3.ext E21
  have E_y4 : Exa Z h21 y4 "java/lang/String" := E_y4.ext E21
  have F_0 : Fld Z h21 a "com/example/leasehold/leasehold/LeaseRequest" "holder" "Ljava/lang/String;" (.ref x) := F_0.ext E21
  have F_1 : Fld Z h21 a "com/example/leasehold/leasehold/LeaseRequest" "actor" "Ljava/lang/String;" (.ref y1) := F_1.ext E21
  have Zs22 : n0 ≤ h21.size := Nat.le_trans Zs19 E21.1
  have hk22 : k11 ≤ h21.size := Nat.le_trans hk19 E21.1
  have KC22 : Keep h0 h21 [a] := KC19.ext E21
  have pre23 : ∀ tgt, Steps p.tables e below (T21.setTop (mkF m 76 #[.val (.ref a), .val (.ref x), .val (.ref y1), .val (.ref y2), .val (.ref y3), .val (.ref y4), .val (.long q1), .second, .val (.long q2), .second] [(.ref lit21), (.ref y2), (.ref a)])) tgt → Steps p.tables e below (s₁.setTop (entryFrame m #[(.ref a), (.ref x), (.ref y1), (.ref y2), (.ref y3), (.ref y4), (.long q1), (.long q2)] 10)) tgt := by
    intro tgt kk
    refine pre20 tgt ?_
    refine st21 _ ?_
    show Steps p.tables e below (T21.setTop (mkF m 76 #[.val (.ref a), .val (.ref x), .val (.ref y1), .val (.ref y2), .val (.ref y3), .val (.ref y4), .val (.long q1), .second, .val (.long q2), .second] [(.ref lit21), (.ref y2), (.ref a)])) _
    exact kk
  obtain ⟨_, _, ⟨T24, L24, k24, n24⟩, -, X24, ⟨Lc24, hQ24, l24, y24, z24⟩, st24⟩ := Jvm.LawKit.callS X21 hx (y := (⟨"java/util/Objects", "requireNonNull", "(Ljava/lang/Object;Ljava/lang/String;)Ljava/lang/Object;"⟩ : MethodName)) hown (mvT hZ (hw _ (List.mem_of_getElem? (i := 101) rfl))) (mvT hZ (hw _ (List.mem_of_getElem? (i := 102) rfl))) (mvT hZ (hw _ (List.mem_of_getElem? (i := 103) rfl))) (mvT hZ (hw _ (List.mem_of_getElem? (i := 104) rfl))) (by decide) (backOf (W := 1) (rmNN l Z a0 hw [] y2 lit21 h21 n0 Zs22) hZ (hw _ (List.mem_of_getElem? (i := 104) rfl)) (hw _ (List.mem_of_getElem? (i := 103) rfl)) (by decide) (by decide)) (g := (mkF m 76 #[.val (.ref a), .val (.ref x), .val (.ref y1), .val (.ref y2), .val (.ref y3), .val (.ref y4), .val (.long q1), .second, .val (.long q2), .second] [(.ref lit21), (.ref y2), (.ref a)])) rfl (by rw [hml]; rfl) (argsL := [(.ref y2), (.ref lit21)]) (rest := [(.ref a)]) (lenOf pd__Ljava_lang_Object_Ljava_lang_String__Ljava_lang_Object_ rfl) rfl (by show 2 * 0 + _ ≤ _; exact Nat.le_of_eq rfl) (hb hby d9_76) (fun _ _ => ⟨rfl, e21, (by decide : 4 + 0 ≤ _), (by decide : 188 + 0 ≤ _)⟩)
  dsimp only [Pt.U, Pt.locs, Pt.cells, Pt.slots] at X24 l24 y24 z24 st24 hQ24
  subst l24 y24 z24
  obtain ⟨rfl, N24q, hh24⟩ := hQ24
  have N24 := Fr.app N18 N24q
  have pre25 : ∀ tgt, Steps p.tables e below (T24.setTop (mkF m 79 #[.val (.ref a), .val (.ref x), .val (.ref y1), .val (.ref y2), .val (.ref y3), .val (.ref y4), .val (.long q1), .second, .val (.long q2), .second] [(.ref y2), (.ref a)])) tgt → Steps p.tables e below (s₁.setTop (entryFrame m #[(.ref a), (.ref x), (.ref y1), (.ref y2), (.ref y3), (.ref y4), (.long q1), (.long q2)] 10)) tgt := by
    intro tgt kk
    refine pre23 tgt ?_
    refine st24 _ ?_
    show Steps p.tables e below (T24.setTop (mkF m 79 #[.val (.ref a), .val (.ref x), .val (.ref y1), .val (.ref y2), .val (.ref y3), .val (.ref y4), .val (.long q1), .second, .val (.long q2), .second] [(.ref y2), (.ref a)])) _
    exact kk
  obtain ⟨T26, X26, e26, st26⟩ := castY X24 hx hZ hown (hw _ (List.mem_of_getElem? (i := 105) rfl)) hh24 (Ins.self E_y2) (g := (mkF m 79 #[.val (.ref a), .val (.ref x), .val (.ref y1), .val (.ref y2), .val (.ref y3), .val (.ref y4), .val (.long q1), .second, .val (.long q2), .second] [(.ref y2), (.ref a)])) rfl rfl (hb hby d9_79)
  have pre27 : ∀ tgt, Steps p.tables e below (T26.setTop (mkF m 82 #[.val (.ref a), .val (.ref x), .val (.ref y1), .val (.ref y2), .val (.ref y3), .val (.ref y4), .val (.long q1), .second, .val (.long q2), .second] [(.ref y2), (.ref a)])) tgt → Steps p.tables e below (s₁.setTop (entryFrame m #[(.ref a), (.ref x), (.ref y1), (.ref y2), (.ref y3), (.ref y4), (.long q1), (.long q2)] 10)) tgt := by
    intro tgt kk
    refine pre25 tgt ?_
    refine st26 _ ?_
    show Steps p.tables e below (T26.setTop (mkF m 82 #[.val (.ref a), .val (.ref x), .val (.ref y1), .val (.ref y2), .val (.ref y3), .val (.ref y4), .val (.long q1), .second, .val (.long q2), .second] [(.ref y2), (.ref a)])) _
    exact kk
  obtain ⟨T28, h28, X28, e28, W28, st28⟩ := putF X26 hx hZ hown (host := "") (Or.inl (hw _ (List.mem_of_getElem? (i := 109) rfl))) Via.refl e26 F_2 E_a (Or.inr ⟨(hw _ (List.mem_of_getElem? (i := 110) rfl)), rfl, hnm⟩) (hw _ (List.mem_of_getElem? (i := 35) rfl)) (ty := (.object "java/lang/String")) (by decide) rfl rfl (g := (mkF m 82 #[.val (.ref a), .val (.ref x), .val (.ref y1), .val (.ref y2), .val (.ref y3), .val (.ref y4), .val (.long q1), .second, .val (.long q2), .second] [(.ref y2), (.ref a)])) rfl rfl (hb hby d9_82)
  have N28 := Fr.snoc X28 N24 g_a
  have Fq28 : Fld Z h28 a "com/example/leasehold/leasehold/LeaseRequest" "intent" "Ljava/lang/String;" (.ref y2) := F_2.same W28
  have E_a : Exa Z h28 a "com/example/leasehold/leasehold/LeaseRequest" := E_a.wr W28
  have F_3 : Fld Z h28 a "com/example/leasehold/leasehold/LeaseRequest" "intentVersion" "Ljava/lang/String;" .null := F_3.other W28 (Or.inr (slot_ne (Or.inr (hw _ (List.mem_of_getElem? (i := 113) rfl))) (Or.inr (hw _ (List.mem_of_getElem? (i := 110) rfl))) (by decide) (t := (.object "java/lang/String")) (t' := (.object "java/lang/String")) (by decide) (by decide)))
  have F_4 : Fld Z h28 a "com/example/leasehold/leasehold/LeaseRequest" "hostId" "Ljava/lang/String;" .null := F_4.other W28 (Or.inr (slot_ne (Or.inr (hw _ (List.mem_of_getElem? (i := 116) rfl))) (Or.inr (hw _ (List.mem_of_getElem? (i := 110) rfl))) (by decide) (t := (.object "java/lang/String")) (t' := (.object "java/lang/String")) (by decide) (by decide)))
  have F_5 : Fld Z h28 a "com/example/leasehold/leasehold/LeaseRequest" "pid" "J" (.long (0 : Int64)) := F_5.other W28 (Or.inr (slot_ne (Or.inr (hw _ (List.mem_of_getElem? (i := 118) rfl))) (Or.inr (hw _ (List.mem_of_getElem? (i := 110) rfl))) (by decide) (t := .long) (t' := (.object "java/lang/String")) (by decide) (by decide)))
  have F_6 : Fld Z h28 a "com/example/leasehold/leasehold/LeaseRequest" "ttlSeconds" "J" (.long (0 : Int64)) := F_6.other W28 (Or.inr (slot_ne (Or.inr (hw _ (List.mem_of_getElem? (i := 120) rfl))) (Or.inr (hw _ (List.mem_of_getElem? (i := 110) rfl))) (by decide) (t := .long) (t' := (.object "java/lang/String")) (by decide) (by decide)))
  have E_x : Exa Z h28 x "java/lang/String" := E_x.wr W28
  have E_y1 : Exa Z h28 y1 "java/lang/String" := E_y1.wr W28
  have E_y2 : Exa Z h28 y2 "java/lang/String" := E_y2.wr W28
  have E_y3 : Exa Z h28 y3 "java/lang/String" := E_y3.wr W28
  have E_y4 : Exa Z h28 y4 "java/lang/String" := E_y4.wr W28
  have F_0 : Fld Z h28 a "com/example/leasehold/leasehold/LeaseRequest" "holder" "Ljava/lang/String;" (.ref x) := F_0.other W28 (Or.inr (slot_ne (Or.inr (hw _ (List.mem_of_getElem? (i := 97) rfl))) (Or.inr (hw _ (List.mem_of_getElem? (i := 110) rfl))) (by decide) (t := (.object "java/lang/String")) (t' := (.object "java/lang/String")) (by decide) (by decide)))
  have F_1 : Fld Z h28 a "com/example/leasehold/leasehold/LeaseRequest" "actor" "Ljava/lang/String;" (.ref y1) := F_1.other W28 (Or.inr (slot_ne (Or.inr (hw _ (List.mem_of_getElem? (i := 107) rfl))) (Or.inr (hw _ (List.mem_of_getElem? (i := 110) rfl))) (by decide) (t := (.object "java/lang/String")) (t' := (.object "java/lang/String")) (by decide) (by decide)))
  have Zs29 : n0 ≤ h28.size := Nat.le_trans Zs22 (Keep.of_wr W28).1
  have hk29 : k21 ≤ h28.size := Nat.le_trans hkl21 (Keep.of_wr W28).1
  have KC29 : Keep h0 h28 [a] := KC22.wr W28 (Or.inl (List.mem_of_getElem? (i := 0) rfl))
  have F_2 := Fq28
  have pre30 : ∀ tgt, Steps p.tables e below (T28.setTop (mkF m 88 #[.val (.ref a), .val (.ref x), .val (.ref y1), .val (.ref y2), .val (.ref y3), .val (.ref y4), .val (.long q1), .second, .val (.long q2), .second] [(.ref y3), (.ref a)])) tgt → Steps p.tables e below (s₁.setTop (entryFrame m #[(.ref a), (.ref x), (.ref y1), (.ref y2), (.ref y3), (.ref y4), (.long q1), (.long q2)] 10)) tgt := by
    intro tgt kk
    refine pre27 tgt ?_
    refine st28 _ ?_
    show Steps p.tables e below (T28.setTop (mkF m 85 #[.val (.ref a), .val (.ref x), .val (.ref y1), .val (.ref y2), .val (.ref y3), .val (.ref y4), .val (.long q1), .second, .val (.long q2), .second] [])) _
    refine XS.aloadN X28.here hx rfl (hb hby d9_85) rfl rfl ?_
    show Steps p.tables e below (T28.setTop (mkF m 86 #[.val (.ref a), .val (.ref x), .val (.ref y1), .val (.ref y2), .val (.ref y3), .val (.ref y4), .val (.long q1), .second, .val (.long q2), .second] [(.ref a)])) _
    refine XS.aload X28.here hx rfl (hb hby d9_86) rfl rfl ?_
    show Steps p.tables e below (T28.setTop (mkF m 88 #[.val (.ref a), .val (.ref x), .val (.ref y1), .val (.ref y2), .val (.ref y3), .val (.ref y4), .val (.long q1), .second, .val (.long q2), .second] [(.ref y3), (.ref a)])) _
    exact kk
  have hwS : ∀ d ∈ Bundle.stringAtoms, d.before a0 Z = true := fun d hd => hw d ((by decide +kernel : ∀ d ∈ Bundle.stringAtoms, d ∈ tables_1) d hd)
  obtain ⟨lit31, T31, h31, k31, X31, e31, E31, hS31, hkl31, hZ, hown, st31⟩ := ldcS (s := s) (vm0 := T21.vm) X28 hx hZ hown (hw _ (List.mem_of_getElem? (i := 111) rfl)) hwS e28 (k0 := k21) hS21 hk29 (g := (mkF m 88 #[.val (.ref a), .val (.ref x), .val (.ref y1), .val (.ref y2), .val (.ref y3), .val (.ref y4), .val (.long q1), .second, .val (.long q2), .second] [(.ref y3), (.ref a)])) rfl (hb hby d9_88) (n := 124) (by decide +kernel) (by decide) (by decide) (by decide)
  have E_a : Exa Z h31 a "com/example/leasehold/leasehold/LeaseRequest" := E_a.ext E31
  have F_3 : Fld Z h31 a "com/example/leasehold/leasehold/LeaseRequest" "intentVersion" "Ljava/lang/String;" .null := F_3.ext E31
  have F_4 : Fld Z h31 a "com/example/leasehold/leasehold/LeaseRequest" "hostId" "Ljava/lang/String;" .null := F_4.ext E31
  have F_5 : Fld Z h31 a "com/example/leasehold/leasehold/LeaseRequest" "pid" "J" (.long (0 : Int64)) := F_5.ext E31
  have F_6 : Fld Z h31 a "com/example/leasehold/leasehold/LeaseRequest" "ttlSeconds" "J" (.long (0 : Int64)) := F_6.ext E31
  have E_x : Exa Z h31 x "java/lang/String" := E_x.ext E31
  have E_y1 : Exa Z h31 y1 "java/lang/String" := E_y1.ext E31
  have E_y2 : Exa Z h31 y2 "java/lang/String" := E_y2.ext E31
  have E_y3 : Exa Z h31 y3 "java/lang/String" := E_y3.ext E31
  have E_y4 : Exa Z h31 y4 "java/lang/String" := E_y4.ext E31
  have F_0 : Fld Z h31 a "com/example/leasehold/leasehold/LeaseRequest" "holder" "Ljava/lang/String;" (.ref x) := F_0.ext E31
  have F_1 : Fld Z h31 a "com/example/leasehold/leasehold/LeaseRequest" "actor" "Ljava/lang/String;" (.ref y1) := F_1.ext E31
  have F_2 : Fld Z h31 a "com/example/leasehold/leasehold/LeaseRequest" "intent" "Ljava/lang/String;" (.ref y2) := F_2.ext E31
  have Zs32 : n0 ≤ h31.size := Nat.le_trans Zs29 E31.1
  have hk32 : k21 ≤ h31.size := Nat.le_trans hk29 E31.1
  have KC32 : Keep h0 h31 [a] := KC29.ext E31
  have pre33 : ∀ tgt, Steps p.tables e below (T31.setTop (mkF m 90 #[.val (.ref a), .val (.ref x), .val (.ref y1), .val (.ref y2), .val (.ref y3), .val (.ref y4), .val (.long q1), .second, .val (.long q2), .second] [(.ref lit31), (.ref y3), (.ref a)])) tgt → Steps p.tables e below (s₁.setTop (entryFrame m #[(.ref a), (.ref x), (.ref y1), (.ref y2), (.ref y3), (.ref y4), (.long q1), (.long q2)] 10)) tgt := by
    intro tgt kk
    refine pre30 tgt ?_
    refine st31 _ ?_
    show Steps p.tables e below (T31.setTop (mkF m 90 #[.val (.ref a), .val (.ref x), .val (.ref y1), .val (.ref y2), .val (.ref y3), .val (.ref y4), .val (.long q1), .second, .val (.long q2), .second] [(.ref lit31), (.ref y3), (.ref a)])) _
    exact kk
  obtain ⟨_, _, ⟨T34, L34, k34, n34⟩, -, X34, ⟨Lc34, hQ34, l34, y34, z34⟩, st34⟩ := Jvm.LawKit.callS X31 hx (y := (⟨"java/util/Objects", "requireNonNull", "(Ljava/lang/Object;Ljava/lang/String;)Ljava/lang/Object;"⟩ : MethodName)) hown (mvT hZ (hw _ (List.mem_of_getElem? (i := 101) rfl))) (mvT hZ (hw _ (List.mem_of_getElem? (i := 102) rfl))) (mvT hZ (hw _ (List.mem_of_getElem? (i := 103) rfl))) (mvT hZ (hw _ (List.mem_of_getElem? (i := 104) rfl))) (by decide) (backOf (W := 1) (rmNN l Z a0 hw [] y3 lit31 h31 n0 Zs32) hZ (hw _ (List.mem_of_getElem? (i := 104) rfl)) (hw _ (List.mem_of_getElem? (i := 103) rfl)) (by decide) (by decide)) (g := (mkF m 90 #[.val (.ref a), .val (.ref x), .val (.ref y1), .val (.ref y2), .val (.ref y3), .val (.ref y4), .val (.long q1), .second, .val (.long q2), .second] [(.ref lit31), (.ref y3), (.ref a)])) rfl (by rw [hml]; rfl) (argsL := [(.ref y3), (.ref lit31)]) (rest := [(.ref a)]) (lenOf pd__Ljava_lang_Object_Ljava_lang_String__Ljava_lang_Object_ rfl) rfl (by show 2 * 0 + _ ≤ _; exact Nat.le_of_eq rfl) (hb hby d9_90) (fun _ _ => ⟨rfl, e31, (by decide : 6 + 0 ≤ _), (by decide : 316 + 0 ≤ _)⟩)
  dsimp only [Pt.U, Pt.locs, Pt.cells, Pt.slots] at X34 l34 y34 z34 st34 hQ34
  subst l34 y34 z34
  obtain ⟨rfl, N34q, hh34⟩ := hQ34
  have N34 := Fr.app N28 N34q
  have pre35 : ∀ tgt, Steps p.tables e below (T34.setTop (mkF m 93 #[.val (.ref a), .val (.ref x), .val (.ref y1), .val (.ref y2), .val (.ref y3), .val (.ref y4), .val (.long q1), .second, .val (.long q2), .second] [(.ref y3), (.ref a)])) tgt → Steps p.tables e below (s₁.setTop (entryFrame m #[(.ref a), (.ref x), (.ref y1), (.ref y2), (.ref y3), (.ref y4), (.long q1), (.long q2)] 10)) tgt := by
    intro tgt kk
    refine pre33 tgt ?_
    refine st34 _ ?_
    show Steps p.tables e below (T34.setTop (mkF m 93 #[.val (.ref a), .val (.ref x), .val (.ref y1), .val (.ref y2), .val (.ref y3), .val (.ref y4), .val (.long q1), .second, .val (.long q2), .second] [(.ref y3), (.ref a)])) _
    exact kk
  obtain ⟨T36, X36, e36, st36⟩ := castY X34 hx hZ hown (hw _ (List.mem_of_getElem? (i := 105) rfl)) hh34 (Ins.self E_y3) (g := (mkF m 93 #[.val (.ref a), .val (.ref x), .val (.ref y1), .val (.ref y2), .val (.ref y3), .val (.ref y4), .val (.long q1), .second, .val (.long q2), .second] [(.ref y3), (.ref a)])) rfl rfl (hb hby d9_93)
  have pre37 : ∀ tgt, Steps p.tables e below (T36.setTop (mkF m 96 #[.val (.ref a), .val (.ref x), .val (.ref y1), .val (.ref y2), .val (.ref y3), .val (.ref y4), .val (.long q1), .second, .val (.long q2), .second] [(.ref y3), (.ref a)])) tgt → Steps p.tables e below (s₁.setTop (entryFrame m #[(.ref a), (.ref x), (.ref y1), (.ref y2), (.ref y3), (.ref y4), (.long q1), (.long q2)] 10)) tgt := by
    intro tgt kk
    refine pre35 tgt ?_
    refine st36 _ ?_
    show Steps p.tables e below (T36.setTop (mkF m 96 #[.val (.ref a), .val (.ref x), .val (.ref y1), .val (.ref y2), .val (.ref y3), .val (.ref y4), .val (.long q1), .second, .val (.long q2), .second] [(.ref y3), (.ref a)])) _
    exact kk
  obtain ⟨T38, h38, X38, e38, W38, st38⟩ := putF X36 hx hZ hown (host := "") (Or.inl (hw _ (List.mem_of_getElem? (i := 112) rfl))) Via.refl e36 F_3 E_a (Or.inr ⟨(hw _ (List.mem_of_getElem? (i := 113) rfl)), rfl, hnm⟩) (hw _ (List.mem_of_getElem? (i := 35) rfl)) (ty := (.object "java/lang/String")) (by decide) rfl rfl (g := (mkF m 96 #[.val (.ref a), .val (.ref x), .val (.ref y1), .val (.ref y2), .val (.ref y3), .val (.ref y4), .val (.long q1), .second, .val (.long q2), .second] [(.ref y3), (.ref a)])) rfl rfl (hb hby d9_96)
  have N38 := Fr.snoc X38 N34 g_a
  have Fq38 : Fld Z h38 a "com/example/leasehold/leasehold/LeaseRequest" "intentVersion" "Ljava/lang/String;" (.ref y3) := F_3.same W38
  have E_a : Exa Z h38 a "com/example/leasehold/leasehold/LeaseRequest" := E_a.wr W38
  have F_4 : Fld Z h38 a "com/example/leasehold/leasehold/LeaseRequest" "hostId" "Ljava/lang/String;" .null := F_4.other W38 (Or.inr (slot_ne (Or.inr (hw _ (List.mem_of_getElem? (i := 116) rfl))) (Or.inr (hw _ (List.mem_of_getElem? (i := 113) rfl))) (by decide) (t := (.object "java/lang/String")) (t' := (.object "java/lang/String")) (by decide) (by decide)))
  have F_5 : Fld Z h38 a "com/example/leasehold/leasehold/LeaseRequest" "pid" "J" (.long (0 : Int64)) := F_5.other W38 (Or.inr (slot_ne (Or.inr (hw _ (List.mem_of_getElem? (i := 118) rfl))) (Or.inr (hw _ (List.mem_of_getElem? (i := 113) rfl))) (by decide) (t := .long) (t' := (.object "java/lang/String")) (by decide) (by decide)))
  have F_6 : Fld Z h38 a "com/example/leasehold/leasehold/LeaseRequest" "ttlSeconds" "J" (.long (0 : Int64)) := F_6.other W38 (Or.inr (slot_ne (Or.inr (hw _ (List.mem_of_getElem? (i := 120) rfl))) (Or.inr (hw _ (List.mem_of_getElem? (i := 113) rfl))) (by decide) (t := .long) (t' := (.object "java/lang/String")) (by decide) (by decide)))
  have E_x : Exa Z h38 x "java/lang/String" := E_x.wr W38
  have E_y1 : Exa Z h38 y1 "java/lang/String" := E_y1.wr W38
  have E_y2 : Exa Z h38 y2 "java/lang/String" := E_y2.wr W38
  have E_y3 : Exa Z h38 y3 "java/lang/String" := E_y3.wr W38
  have E_y4 : Exa Z h38 y4 "java/lang/String" := E_y4.wr W38
  have F_0 : Fld Z h38 a "com/example/leasehold/leasehold/LeaseRequest" "holder" "Ljava/lang/String;" (.ref x) := F_0.other W38 (Or.inr (slot_ne (Or.inr (hw _ (List.mem_of_getElem? (i := 97) rfl))) (Or.inr (hw _ (List.mem_of_getElem? (i := 113) rfl))) (by decide) (t := (.object "java/lang/String")) (t' := (.object "java/lang/String")) (by decide) (by decide)))
  have F_1 : Fld Z h38 a "com/example/leasehold/leasehold/LeaseRequest" "actor" "Ljava/lang/String;" (.ref y1) := F_1.other W38 (Or.inr (slot_ne (Or.inr (hw _ (List.mem_of_getElem? (i := 107) rfl))) (Or.inr (hw _ (List.mem_of_getElem? (i := 113) rfl))) (by decide) (t := (.object "java/lang/String")) (t' := (.object "java/lang/String")) (by decide) (by decide)))
  have F_2 : Fld Z h38 a "com/example/leasehold/leasehold/LeaseRequest" "intent" "Ljava/lang/String;" (.ref y2) := F_2.other W38 (Or.inr (slot_ne (Or.inr (hw _ (List.mem_of_getElem? (i := 110) rfl))) (Or.inr (hw _ (List.mem_of_getElem? (i := 113) rfl))) (by decide) (t := (.object "java/lang/String")) (t' := (.object "java/lang/String")) (by decide) (by decide)))
  have Zs39 : n0 ≤ h38.size := Nat.le_trans Zs32 (Keep.of_wr W38).1
  have hk39 : k31 ≤ h38.size := Nat.le_trans hkl31 (Keep.of_wr W38).1
  have KC39 : Keep h0 h38 [a] := KC32.wr W38 (Or.inl (List.mem_of_getElem? (i := 0) rfl))
  have F_3 := Fq38
  have pre40 : ∀ tgt, Steps p.tables e below (T38.setTop (mkF m 102 #[.val (.ref a), .val (.ref x), .val (.ref y1), .val (.ref y2), .val (.ref y3), .val (.ref y4), .val (.long q1), .second, .val (.long q2), .second] [(.ref y4), (.ref a)])) tgt → Steps p.tables e below (s₁.setTop (entryFrame m #[(.ref a), (.ref x), (.ref y1), (.ref y2), (.ref y3), (.ref y4), (.long q1), (.long q2)] 10)) tgt := by
    intro tgt kk
    refine pre37 tgt ?_
    refine st38 _ ?_
    show Steps p.tables e below (T38.setTop (mkF m 99 #[.val (.ref a), .val (.ref x), .val (.ref y1), .val (.ref y2), .val (.ref y3), .val (.ref y4), .val (.long q1), .second, .val (.long q2), .second] [])) _
    refine XS.aloadN X38.here hx rfl (hb hby d9_99) rfl rfl ?_
    show Steps p.tables e below (T38.setTop (mkF m 100 #[.val (.ref a), .val (.ref x), .val (.ref y1), .val (.ref y2), .val (.ref y3), .val (.ref y4), .val (.long q1), .second, .val (.long q2), .second] [(.ref a)])) _
    refine XS.aload X38.here hx rfl (hb hby d9_100) rfl rfl ?_
    show Steps p.tables e below (T38.setTop (mkF m 102 #[.val (.ref a), .val (.ref x), .val (.ref y1), .val (.ref y2), .val (.ref y3), .val (.ref y4), .val (.long q1), .second, .val (.long q2), .second] [(.ref y4), (.ref a)])) _
    exact kk
  have hwS : ∀ d ∈ Bundle.stringAtoms, d.before a0 Z = true := fun d hd => hw d ((by decide +kernel : ∀ d ∈ Bundle.stringAtoms, d ∈ tables_1) d hd)
  obtain ⟨lit41, T41, h41, k41, X41, e41, E41, hS41, hkl41, hZ, hown, st41⟩ := ldcS (s := s) (vm0 := T31.vm) X38 hx hZ hown (hw _ (List.mem_of_getElem? (i := 114) rfl)) hwS e38 (k0 := k31) hS31 hk39 (g := (mkF m 102 #[.val (.ref a), .val (.ref x), .val (.ref y1), .val (.ref y2), .val (.ref y3), .val (.ref y4), .val (.long q1), .second, .val (.long q2), .second] [(.ref y4), (.ref a)])) rfl (hb hby d9_102) (n := 96) (by decide +kernel) (by decide) (by decide) (by decide)
  have E_a : Exa Z h41 a "com/example/leasehold/leasehold/LeaseRequest" := E_a.ext E41
  have F_4 : Fld Z h41 a "com/example/leasehold/leasehold/LeaseRequest" "hostId" "Ljava/lang/String;" .null := F_4.ext E41
  have F_5 : Fld Z h41 a "com/example/leasehold/leasehold/LeaseRequest" "pid" "J" (.long (0 : Int64)) := F_5.ext E41
  have F_6 : Fld Z h41 a "com/example/leasehold/leasehold/LeaseRequest" "ttlSeconds" "J" (.long (0 : Int64)) := F_6.ext E41
  have E_x : Exa Z h41 x "java/lang/String" := E_x.ext E41
  have E_y1 : Exa Z h41 y1 "java/lang/String" := E_y1.ext E41
  have E_y2 : Exa Z h41 y2 "java/lang/String" := E_y2.ext E41
  have E_y3 : Exa Z h41 y3 "java/lang/String" := E_y3.ext E41
  have E_y4 : Exa Z h41 y4 "java/lang/String" := E_y4.ext E41
  have F_0 : Fld Z h41 a "com/example/leasehold/leasehold/LeaseRequest" "holder" "Ljava/lang/String;" (.ref x) := F_0.ext E41
  have F_1 : Fld Z h41 a "com/example/leasehold/leasehold/LeaseRequest" "actor" "Ljava/lang/String;" (.ref y1) := F_1.ext E41
  have F_2 : Fld Z h41 a "com/example/leasehold/leasehold/LeaseRequest" "intent" "Ljava/lang/String;" (.ref y2) := F_2.ext E41
  have F_3 : Fld Z h41 a "com/example/leasehold/leasehold/LeaseRequest" "intentVersion" "Ljava/lang/String;" (.ref y3) := F_3.ext E41
  have Zs42 : n0 ≤ h41.size := Nat.le_trans Zs39 E41.1
  have hk42 : k31 ≤ h41.size := Nat.le_trans hk39 E41.1
  have KC42 : Keep h0 h41 [a] := KC39.ext E41
  have pre43 : ∀ tgt, Steps p.tables e below (T41.setTop (mkF m 104 #[.val (.ref a), .val (.ref x), .val (.ref y1), .val (.ref y2), .val (.ref y3), .val (.ref y4), .val (.long q1), .second, .val (.long q2), .second] [(.ref lit41), (.ref y4), (.ref a)])) tgt → Steps p.tables e below (s₁.setTop (entryFrame m #[(.ref a), (.ref x), (.ref y1), (.ref y2), (.ref y3), (.ref y4), (.long q1), (.long q2)] 10)) tgt := by
    intro tgt kk
    refine pre40 tgt ?_
    refine st41 _ ?_
    show Steps p.tables e below (T41.setTop (mkF m 104 #[.val (.ref a), .val (.ref x), .val (.ref y1), .val (.ref y2), .val (.ref y3), .val (.ref y4), .val (.long q1), .second, .val (.long q2), .second] [(.ref lit41), (.ref y4), (.ref a)])) _
    exact kk
  obtain ⟨_, _, ⟨T44, L44, k44, n44⟩, -, X44, ⟨Lc44, hQ44, l44, y44, z44⟩, st44⟩ := Jvm.LawKit.callS X41 hx (y := (⟨"java/util/Objects", "requireNonNull", "(Ljava/lang/Object;Ljava/lang/String;)Ljava/lang/Object;"⟩ : MethodName)) hown (mvT hZ (hw _ (List.mem_of_getElem? (i := 101) rfl))) (mvT hZ (hw _ (List.mem_of_getElem? (i := 102) rfl))) (mvT hZ (hw _ (List.mem_of_getElem? (i := 103) rfl))) (mvT hZ (hw _ (List.mem_of_getElem? (i := 104) rfl))) (by decide) (backOf (W := 1) (rmNN l Z a0 hw [] y4 lit41 h41 n0 Zs42) hZ (hw _ (List.mem_of_getElem? (i := 104) rfl)) (hw _ (List.mem_of_getElem? (i := 103) rfl)) (by decide) (by decide)) (g := (mkF m 104 #[.val (.ref a), .val (.ref x), .val (.ref y1), .val (.ref y2), .val (.ref y3), .val (.ref y4), .val (.long q1), .second, .val (.long q2), .second] [(.ref lit41), (.ref y4), (.ref a)])) rfl (by rw [hml]; rfl) (argsL := [(.ref y4), (.ref lit41)]) (rest := [(.ref a)]) (lenOf pd__Ljava_lang_Object_Ljava_lang_String__Ljava_lang_Object_ rfl) rfl (by show 2 * 0 + _ ≤ _; exact Nat.le_of_eq rfl) (hb hby d9_104) (fun _ _ => ⟨rfl, e41, (by decide : 8 + 0 ≤ _), (by decide : 416 + 0 ≤ _)⟩)
  dsimp only [Pt.U, Pt.locs, Pt.cells, Pt.slots] at X44 l44 y44 z44 st44 hQ44
  subst l44 y44 z44
  obtain ⟨rfl, N44q, hh44⟩ := hQ44
  have N44 := Fr.app N38 N44q
  have pre45 : ∀ tgt, Steps p.tables e below (T44.setTop (mkF m 107 #[.val (.ref a), .val (.ref x), .val (.ref y1), .val (.ref y2), .val (.ref y3), .val (.ref y4), .val (.long q1), .second, .val (.long q2), .second] [(.ref y4), (.ref a)])) tgt → Steps p.tables e below (s₁.setTop (entryFrame m #[(.ref a), (.ref x), (.ref y1), (.ref y2), (.ref y3), (.ref y4), (.long q1), (.long q2)] 10)) tgt := by
    intro tgt kk
    refine pre43 tgt ?_
    refine st44 _ ?_
    show Steps p.tables e below (T44.setTop (mkF m 107 #[.val (.ref a), .val (.ref x), .val (.ref y1), .val (.ref y2), .val (.ref y3), .val (.ref y4), .val (.long q1), .second, .val (.long q2), .second] [(.ref y4), (.ref a)])) _
    exact kk
  obtain ⟨T46, X46, e46, st46⟩ := castY X44 hx hZ hown (hw _ (List.mem_of_getElem? (i := 105) rfl)) hh44 (Ins.self E_y4) (g := (mkF m 107 #[.val (.ref a), .val (.ref x), .val (.ref y1), .val (.ref y2), .val (.ref y3), .val (.ref y4), .val (.long q1), .second, .val (.long q2), .second] [(.ref y4), (.ref a)])) rfl rfl (hb hby d9_107)
  have pre47 : ∀ tgt, Steps p.tables e below (T46.setTop (mkF m 110 #[.val (.ref a), .val (.ref x), .val (.ref y1), .val (.ref y2), .val (.ref y3), .val (.ref y4), .val (.long q1), .second, .val (.long q2), .second] [(.ref y4), (.ref a)])) tgt → Steps p.tables e below (s₁.setTop (entryFrame m #[(.ref a), (.ref x), (.ref y1), (.ref y2), (.ref y3), (.ref y4), (.long q1), (.long q2)] 10)) tgt := by
    intro tgt kk
    refine pre45 tgt ?_
    refine st46 _ ?_
    show Steps p.tables e below (T46.setTop (mkF m 110 #[.val (.ref a), .val (.ref x), .val (.ref y1), .val (.ref y2), .val (.ref y3), .val (.ref y4), .val (.long q1), .second, .val (.long q2), .second] [(.ref y4), (.ref a)])) _
    exact kk
  obtain ⟨T48, h48, X48, e48, W48, st48⟩ := putF X46 hx hZ hown (host := "") (Or.inl (hw _ (List.mem_of_getElem? (i := 115) rfl))) Via.refl e46 F_4 E_a (Or.inr ⟨(hw _ (List.mem_of_getElem? (i := 116) rfl)), rfl, hnm⟩) (hw _ (List.mem_of_getElem? (i := 35) rfl)) (ty := (.object "java/lang/String")) (by decide) rfl rfl (g := (mkF m 110 #[.val (.ref a), .val (.ref x), .val (.ref y1), .val (.ref y2), .val (.ref y3), .val (.ref y4), .val (.long q1), .second, .val (.long q2), .second] [(.ref y4), (.ref a)])) rfl rfl (hb hby d9_110)
  have N48 := Fr.snoc X48 N44 g_a
  have Fq48 : Fld Z h48 a "com/example/leasehold/leasehold/LeaseRequest" "hostId" "Ljava/lang/String;" (.ref y4) := F_4.same W48
  have E_a : Exa Z h48 a "com/example/leasehold/leasehold/LeaseRequest" := E_a.wr W48
  have F_5 : Fld Z h48 a "com/example/leasehold/leasehold/LeaseRequest" "pid" "J" (.long (0 : Int64)) := F_5.other W48 (Or.inr (slot_ne (Or.inr (hw _ (List.mem_of_getElem? (i := 118) rfl))) (Or.inr (hw _ (List.mem_of_getElem? (i := 116) rfl))) (by decide) (t := .long) (t' := (.object "java/lang/String")) (by decide) (by decide)))
  have F_6 : Fld Z h48 a "com/example/leasehold/leasehold/LeaseRequest" "ttlSeconds" "J" (.long (0 : Int64)) := F_6.other W48 (Or.inr (slot_ne (Or.inr (hw _ (List.mem_of_getElem? (i := 120) rfl))) (Or.inr (hw _ (List.mem_of_getElem? (i := 116) rfl))) (by decide) (t := .long) (t' := (.object "java/lang/String")) (by decide) (by decide)))
  have E_x : Exa Z h48 x "java/lang/String" := E_x.wr W48
  have E_y1 : Exa Z h48 y1 "java/lang/String" := E_y1.wr W48
  have E_y2 : Exa Z h48 y2 "java/lang/String" := E_y2.wr W48
  have E_y3 : Exa Z h48 y3 "java/lang/String" := E_y3.wr W48
  have E_y4 : Exa Z h48 y4 "java/lang/String" := E_y4.wr W48
  have F_0 : Fld Z h48 a "com/example/leasehold/leasehold/LeaseRequest" "holder" "Ljava/lang/String;" (.ref x) := F_0.other W48 (Or.inr (slot_ne (Or.inr (hw _ (List.mem_of_getElem? (i := 97) rfl))) (Or.inr (hw _ (List.mem_of_getElem? (i := 116) rfl))) (by decide) (t := (.object "java/lang/String")) (t' := (.object "java/lang/String")) (by decide) (by decide)))
  have F_1 : Fld Z h48 a "com/example/leasehold/leasehold/LeaseRequest" "actor" "Ljava/lang/String;" (.ref y1) := F_1.other W48 (Or.inr (slot_ne (Or.inr (hw _ (List.mem_of_getElem? (i := 107) rfl))) (Or.inr (hw _ (List.mem_of_getElem? (i := 116) rfl))) (by decide) (t := (.object "java/lang/String")) (t' := (.object "java/lang/String")) (by decide) (by decide)))
  have F_2 : Fld Z h48 a "com/example/leasehold/leasehold/LeaseRequest" "intent" "Ljava/lang/String;" (.ref y2) := F_2.other W48 (Or.inr (slot_ne (Or.inr (hw _ (List.mem_of_getElem? (i := 110) rfl))) (Or.inr (hw _ (List.mem_of_getElem? (i := 116) rfl))) (by decide) (t := (.object "java/lang/String")) (t' := (.object "java/lang/String")) (by decide) (by decide)))
  have F_3 : Fld Z h48 a "com/example/leasehold/leasehold/LeaseRequest" "intentVersion" "Ljava/lang/String;" (.ref y3) := F_3.other W48 (Or.inr (slot_ne (Or.inr (hw _ (List.mem_of_getElem? (i := 113) rfl))) (Or.inr (hw _ (List.mem_of_getElem? (i := 116) rfl))) (by decide) (t := (.object "java/lang/String")) (t' := (.object "java/lang/String")) (by decide) (by decide)))
  have Zs49 : n0 ≤ h48.size := Nat.le_trans Zs42 (Keep.of_wr W48).1
  have hk49 : k41 ≤ h48.size := Nat.le_trans hkl41 (Keep.of_wr W48).1
  have KC49 : Keep h0 h48 [a] := KC42.wr W48 (Or.inl (List.mem_of_getElem? (i := 0) rfl))
  have F_4 := Fq48
  have pre50 : ∀ tgt, Steps p.tables e below (T48.setTop (mkF m 116 #[.val (.ref a), .val (.ref x), .val (.ref y1), .val (.ref y2), .val (.ref y3), .val (.ref y4), .val (.long q1), .second, .val (.long q2), .second] [(.long q1), (.ref a)])) tgt → Steps p.tables e below (s₁.setTop (entryFrame m #[(.ref a), (.ref x), (.ref y1), (.ref y2), (.ref y3), (.ref y4), (.long q1), (.long q2)] 10)) tgt := by
    intro tgt kk
    refine pre47 tgt ?_
    refine st48 _ ?_
    show Steps p.tables e below (T48.setTop (mkF m 113 #[.val (.ref a), .val (.ref x), .val (.ref y1), .val (.ref y2), .val (.ref y3), .val (.ref y4), .val (.long q1), .second, .val (.long q2), .second] [])) _
    refine XS.aloadN X48.here hx rfl (hb hby d9_113) rfl rfl ?_
    show Steps p.tables e below (T48.setTop (mkF m 114 #[.val (.ref a), .val (.ref x), .val (.ref y1), .val (.ref y2), .val (.ref y3), .val (.ref y4), .val (.long q1), .second, .val (.long q2), .second] [(.ref a)])) _
    refine XS.lload X48.here hx rfl (hb hby d9_114) rfl ?_
    show Steps p.tables e below (T48.setTop (mkF m 116 #[.val (.ref a), .val (.ref x), .val (.ref y1), .val (.ref y2), .val (.ref y3), .val (.ref y4), .val (.long q1), .second, .val (.long q2), .second] [(.long q1), (.ref a)])) _
    exact kk
  obtain ⟨T51, h51, X51, e51, W51, st51⟩ := putF X48 hx hZ hown (host := "") (Or.inl (hw _ (List.mem_of_getElem? (i := 117) rfl))) Via.refl e48 F_5 E_a (Or.inr ⟨(hw _ (List.mem_of_getElem? (i := 118) rfl)), rfl, hnm⟩) (hw _ (List.mem_of_getElem? (i := 35) rfl)) (ty := .long) (by decide) rfl rfl (g := (mkF m 116 #[.val (.ref a), .val (.ref x), .val (.ref y1), .val (.ref y2), .val (.ref y3), .val (.ref y4), .val (.long q1), .second, .val (.long q2), .second] [(.long q1), (.ref a)])) rfl rfl (hb hby d9_116)
  have N51 := Fr.snoc X51 N48 g_a
  have Fq51 : Fld Z h51 a "com/example/leasehold/leasehold/LeaseRequest" "pid" "J" (.long q1) := F_5.same W51
  have E_a : Exa Z h51 a "com/example/leasehold/leasehold/LeaseRequest" := E_a.wr W51
  have F_6 : Fld Z h51 a "com/example/leasehold/leasehold/LeaseRequest" "ttlSeconds" "J" (.long (0 : Int64)) := F_6.other W51 (Or.inr (slot_ne (Or.inr (hw _ (List.mem_of_getElem? (i := 120) rfl))) (Or.inr (hw _ (List.mem_of_getElem? (i := 118) rfl))) (by decide) (t := .long) (t' := .long) (by decide) (by decide)))
  have E_x : Exa Z h51 x "java/lang/String" := E_x.wr W51
  have E_y1 : Exa Z h51 y1 "java/lang/String" := E_y1.wr W51
  have E_y2 : Exa Z h51 y2 "java/lang/String" := E_y2.wr W51
  have E_y3 : Exa Z h51 y3 "java/lang/String" := E_y3.wr W51
  have E_y4 : Exa Z h51 y4 "java/lang/String" := E_y4.wr W51
  have F_0 : Fld Z h51 a "com/example/leasehold/leasehold/LeaseRequest" "holder" "Ljava/lang/String;" (.ref x) := F_0.other W51 (Or.inr (slot_ne (Or.inr (hw _ (List.mem_of_getElem? (i := 97) rfl))) (Or.inr (hw _ (List.mem_of_getElem? (i := 118) rfl))) (by decide) (t := (.object "java/lang/String")) (t' := .long) (by decide) (by decide)))
  have F_1 : Fld Z h51 a "com/example/leasehold/leasehold/LeaseRequest" "actor" "Ljava/lang/String;" (.ref y1) := F_1.other W51 (Or.inr (slot_ne (Or.inr (hw _ (List.mem_of_getElem? (i := 107) rfl))) (Or.inr (hw _ (List.mem_of_getElem? (i := 118) rfl))) (by decide) (t := (.object "java/lang/String")) (t' := .long) (by decide) (by decide)))
  have F_2 : Fld Z h51 a "com/example/leasehold/leasehold/LeaseRequest" "intent" "Ljava/lang/String;" (.ref y2) := F_2.other W51 (Or.inr (slot_ne (Or.inr (hw _ (List.mem_of_getElem? (i := 110) rfl))) (Or.inr (hw _ (List.mem_of_getElem? (i := 118) rfl))) (by decide) (t := (.object "java/lang/String")) (t' := .long) (by decide) (by decide)))
  have F_3 : Fld Z h51 a "com/example/leasehold/leasehold/LeaseRequest" "intentVersion" "Ljava/lang/String;" (.ref y3) := F_3.other W51 (Or.inr (slot_ne (Or.inr (hw _ (List.mem_of_getElem? (i := 113) rfl))) (Or.inr (hw _ (List.mem_of_getElem? (i := 118) rfl))) (by decide) (t := (.object "java/lang/String")) (t' := .long) (by decide) (by decide)))
  have F_4 : Fld Z h51 a "com/example/leasehold/leasehold/LeaseRequest" "hostId" "Ljava/lang/String;" (.ref y4) := F_4.other W51 (Or.inr (slot_ne (Or.inr (hw _ (List.mem_of_getElem? (i := 116) rfl))) (Or.inr (hw _ (List.mem_of_getElem? (i := 118) rfl))) (by decide) (t := (.object "java/lang/String")) (t' := .long) (by decide) (by decide)))
  have Zs52 : n0 ≤ h51.size := Nat.le_trans Zs49 (Keep.of_wr W51).1
  have hk52 : k41 ≤ h51.size := Nat.le_trans hk49 (Keep.of_wr W51).1
  have KC52 : Keep h0 h51 [a] := KC49.wr W51 (Or.inl (List.mem_of_getElem? (i := 0) rfl))
  have F_5 := Fq51
  have pre53 : ∀ tgt, Steps p.tables e below (T51.setTop (mkF m 122 #[.val (.ref a), .val (.ref x), .val (.ref y1), .val (.ref y2), .val (.ref y3), .val (.ref y4), .val (.long q1), .second, .val (.long q2), .second] [(.long q2), (.ref a)])) tgt → Steps p.tables e below (s₁.setTop (entryFrame m #[(.ref a), (.ref x), (.ref y1), (.ref y2), (.ref y3), (.ref y4), (.long q1), (.long q2)] 10)) tgt := by
    intro tgt kk
    refine pre50 tgt ?_
    refine st51 _ ?_
    show Steps p.tables e below (T51.setTop (mkF m 119 #[.val (.ref a), .val (.ref x), .val (.ref y1), .val (.ref y2), .val (.ref y3), .val (.ref y4), .val (.long q1), .second, .val (.long q2), .second] [])) _
    refine XS.aloadN X51.here hx rfl (hb hby d9_119) rfl rfl ?_
    show Steps p.tables e below (T51.setTop (mkF m 120 #[.val (.ref a), .val (.ref x), .val (.ref y1), .val (.ref y2), .val (.ref y3), .val (.ref y4), .val (.long q1), .second, .val (.long q2), .second] [(.ref a)])) _
    refine XS.lload X51.here hx rfl (hb hby d9_120) rfl ?_
    show Steps p.tables e below (T51.setTop (mkF m 122 #[.val (.ref a), .val (.ref x), .val (.ref y1), .val (.ref y2), .val (.ref y3), .val (.ref y4), .val (.long q1), .second, .val (.long q2), .second] [(.long q2), (.ref a)])) _
    exact kk
  obtain ⟨T54, h54, X54, e54, W54, st54⟩ := putF X51 hx hZ hown (host := "") (Or.inl (hw _ (List.mem_of_getElem? (i := 119) rfl))) Via.refl e51 F_6 E_a (Or.inr ⟨(hw _ (List.mem_of_getElem? (i := 120) rfl)), rfl, hnm⟩) (hw _ (List.mem_of_getElem? (i := 35) rfl)) (ty := .long) (by decide) rfl rfl (g := (mkF m 122 #[.val (.ref a), .val (.ref x), .val (.ref y1), .val (.ref y2), .val (.ref y3), .val (.ref y4), .val (.long q1), .second, .val (.long q2), .second] [(.long q2), (.ref a)])) rfl rfl (hb hby d9_122)
  have N54 := Fr.snoc X54 N51 g_a
  have Fq54 : Fld Z h54 a "com/example/leasehold/leasehold/LeaseRequest" "ttlSeconds" "J" (.long q2) := F_6.same W54
  have E_a : Exa Z h54 a "com/example/leasehold/leasehold/LeaseRequest" := E_a.wr W54
  have E_x : Exa Z h54 x "java/lang/String" := E_x.wr W54
  have E_y1 : Exa Z h54 y1 "java/lang/String" := E_y1.wr W54
  have E_y2 : Exa Z h54 y2 "java/lang/String" := E_y2.wr W54
  have E_y3 : Exa Z h54 y3 "java/lang/String" := E_y3.wr W54
  have E_y4 : Exa Z h54 y4 "java/lang/String" := E_y4.wr W54
  have F_0 : Fld Z h54 a "com/example/leasehold/leasehold/LeaseRequest" "holder" "Ljava/lang/String;" (.ref x) := F_0.other W54 (Or.inr (slot_ne (Or.inr (hw _ (List.mem_of_getElem? (i := 97) rfl))) (Or.inr (hw _ (List.mem_of_getElem? (i := 120) rfl))) (by decide) (t := (.object "java/lang/String")) (t' := .long) (by decide) (by decide)))
  have F_1 : Fld Z h54 a "com/example/leasehold/leasehold/LeaseRequest" "actor" "Ljava/lang/String;" (.ref y1) := F_1.other W54 (Or.inr (slot_ne (Or.inr (hw _ (List.mem_of_getElem? (i := 107) rfl))) (Or.inr (hw _ (List.mem_of_getElem? (i := 120) rfl))) (by decide) (t := (.object "java/lang/String")) (t' := .long) (by decide) (by decide)))
  have F_2 : Fld Z h54 a "com/example/leasehold/leasehold/LeaseRequest" "intent" "Ljava/lang/String;" (.ref y2) := F_2.other W54 (Or.inr (slot_ne (Or.inr (hw _ (List.mem_of_getElem? (i := 110) rfl))) (Or.inr (hw _ (List.mem_of_getElem? (i := 120) rfl))) (by decide) (t := (.object "java/lang/String")) (t' := .long) (by decide) (by decide)))
  have F_3 : Fld Z h54 a "com/example/leasehold/leasehold/LeaseRequest" "intentVersion" "Ljava/lang/String;" (.ref y3) := F_3.other W54 (Or.inr (slot_ne (Or.inr (hw _ (List.mem_of_getElem? (i := 113) rfl))) (Or.inr (hw _ (List.mem_of_getElem? (i := 120) rfl))) (by decide) (t := (.object "java/lang/String")) (t' := .long) (by decide) (by decide)))
  have F_4 : Fld Z h54 a "com/example/leasehold/leasehold/LeaseRequest" "hostId" "Ljava/lang/String;" (.ref y4) := F_4.other W54 (Or.inr (slot_ne (Or.inr (hw _ (List.mem_of_getElem? (i := 116) rfl))) (Or.inr (hw _ (List.mem_of_getElem? (i := 120) rfl))) (by decide) (t := (.object "java/lang/String")) (t' := .long) (by decide) (by decide)))
  have F_5 : Fld Z h54 a "com/example/leasehold/leasehold/LeaseRequest" "pid" "J" (.long q1) := F_5.other W54 (Or.inr (slot_ne (Or.inr (hw _ (List.mem_of_getElem? (i := 118) rfl))) (Or.inr (hw _ (List.mem_of_getElem? (i := 120) rfl))) (by decide) (t := .long) (t' := .long) (by decide) (by decide)))
  have Zs55 : n0 ≤ h54.size := Nat.le_trans Zs52 (Keep.of_wr W54).1
  have hk55 : k41 ≤ h54.size := Nat.le_trans hk52 (Keep.of_wr W54).1
  have KC55 : Keep h0 h54 [a] := KC52.wr W54 (Or.inl (List.mem_of_getElem? (i := 0) rfl))
  have F_6 := Fq54
  obtain ⟨fs, hr, hrun, hended, hR⟩ := Stand.leaveW (s := s) (vm₁ := T41.vm) X54 (n := k41) hS41 (by rw [e54]; exact hk55) (v := none) (fun _ => rfl)
  refine ⟨_, _, pre53 _ ?_, hrun, hended, _, _, rfl, ?_, hR.1, hR.2.1, hR.2.2.1, hR.2.2.2.mono (by decide) (by decide)⟩
  · skip
    refine st54 _ ?_
    show Steps p.tables e below (T54.setTop (mkF m 125 #[.val (.ref a), .val (.ref x), .val (.ref y1), .val (.ref y2), .val (.ref y3), .val (.ref y4), .val (.long q1), .second, .val (.long q2), .second] [])) _
    exact X54.returnOut hx Bd.returns (hb hby d9_125) hr
  · show QC Z a x t k c0 z0 aI aA clA y1 y2 y3 y4 q1 q2 h0 n0 _ T54.heap _
    rw [e54]
    exact ⟨rfl, N54, KC55, F_0, F_1, F_2, F_3, F_4, F_5, F_6⟩
theorem d23_0 : decode jdk_37_method_2_code 0 = .ok (.aload_n 0, 1) := by decide +kernel
theorem d23_1 : decode jdk_37_method_2_code 1 = .ok (.getfield 7, 3) := by decide +kernel
theorem d23_4 : decode jdk_37_method_2_code 4 = .ok (.ireturn, 1) := by decide +kernel
theorem pn_23 : plainName "java/lang/Enum" = true := by first | (simp [plainName, overriddenIn]; done) | decide +kernel
theorem ef_rmOrd (m : MethodId) (x0 : Addr) : entryFrame m #[(.ref x0)] 1 = mkF m 0 #[.val (.ref x0)] [] := by first | (simp [entryFrame, mkF, argsToLocals, Value.category]; done) | rfl
def QOrd (Z : State) (a : Addr) (o : Int32) (h0 : Heap) (n0 : Nat) (v : Option Value) (h : Heap) (L : List Loc) : Prop := v = some (.int o) ∧ Fr n0 L ∧ h = h0
set_option maxRecDepth 65536 in
set_option maxHeartbeats 40000000 in
theorem rmOrd (l : Launch) (Z : State) (a0 : Array Value) (hw : ∀ d ∈ tables_1, d.before a0 Z = true) (ws : List Jvm.Cond) (a : Addr) (o : Int32) (h0 : Heap) (n0 : Nat) (Z0 : n0 ≤ h0.size) (F_o : Fld Z h0 a "java/lang/Enum" "ordinal" "I" (.int o)) :
    MetFree l (⟨"java/lang/Enum", "ordinal", "()I"⟩ : MethodName) (head1 (Jvm.Cond.code (⟨"java/lang/Enum", "ordinal", "()I"⟩ : MethodName) jdk_37_method_2_code 1 (some .int) :: ws) ({ frames := 0, cells := 0, slots := 0, locals := 0 } : Room)) (fun ar UU => ar = #[(.ref a)] ∧ Z.Warmed39 UU.vm ∧ UU.heap = h0) (fun _ _ _ _ _ => True) (fun _ UU oo UU' => ∃ vv LL, oo = .returned vv ∧ QOrd Z a o h0 n0 vv UU'.heap LL ∧ FrameEnd UU oo UU' LL ({ frames := 0, cells := 0, slots := 0, locals := 0 } : Room).cells ({ frames := 0, cells := 0, slots := 0, locals := 0 } : Room).slots) := by
  refine MetFree.of_bodySF (plainFor_of_name pn_23) hisR ?_
  intro p e s m args below meth c s₁ Bd hml0 hP hK
  obtain ⟨rfl, hZ, hh⟩ := hP
  have hx := Bd.exec
  have hby := Bd.bytes
  have hml : c.maxLocals = 1 := hml0
  have hown : s.vm.findClass "java/lang/Enum" = some m.cls := findClass_of_methodNamed Bd.named
  have hnm := (name_of_methodNamed Bd.named Bd.method).1
  have X0 : Stand p l e ({ frames := 0, cells := 0, slots := 0, locals := 0 } : Room) s m #[(.ref a)] below meth c s₁ [] 0 0 := Stand.of_body Bd
  have e0 : s₁.heap = h0 := by rw [← hh, Bd.state]; rfl
  have N0 := Fr.nil n0
  have KC0 : Keep h0 h0 [] := Keep.refl h0 []
  have pre0 : ∀ tgt, Steps p.tables e below (s₁.setTop (mkF m 0 #[.val (.ref a)] [])) tgt → Steps p.tables e below (s₁.setTop (entryFrame m #[(.ref a)] 1)) tgt := fun tgt kk => castTop (ef_rmOrd m (a)) kk
  have pre1 : ∀ tgt, Steps p.tables e below (s₁.setTop (mkF m 1 #[.val (.ref a)] [(.ref a)])) tgt → Steps p.tables e below (s₁.setTop (entryFrame m #[(.ref a)] 1)) tgt := by
    intro tgt kk
    refine pre0 tgt ?_
    refine XS.aloadN X0.here hx rfl (hb hby d23_0) rfl rfl ?_
    show Steps p.tables e below (s₁.setTop (mkF m 1 #[.val (.ref a)] [(.ref a)])) _
    exact kk
  obtain ⟨T2, X2, e2, st2⟩ := getF X0 hx hZ hown (host := "") (Or.inl (hw _ (List.mem_of_getElem? (i := 136) rfl))) Via.refl e0 F_o (g := (mkF m 1 #[.val (.ref a)] [(.ref a)])) rfl rfl (hb hby d23_1)
  obtain ⟨fs, hr, hrun, hended, hW, hsame⟩ := X2.leave (v := some (.int o)) (fun h => by rw [Bd.returns] at h; cases h)
  refine ⟨_, _, pre1 _ ?_, hrun, hended, _, _, rfl, ?_, ⟨_, rfl⟩, hW, hsame.mono (by decide) (by decide)⟩
  · skip
    refine st2 _ ?_
    show Steps p.tables e below (T2.setTop (mkF m 4 #[.val (.ref a)] [(.int o)])) _
    exact retI X2 hx Bd.returns (hb hby d23_4) hr
  · show QOrd Z a o h0 n0 _ T2.heap _
    rw [e2]
    exact ⟨rfl, N0, rfl⟩
theorem d24_0 : decode prog_13_method_9_code 0 = .ok (.aload_n 0, 1) := by decide +kernel
theorem d24_1 : decode prog_13_method_9_code 1 = .ok (.getfield 38, 3) := by decide +kernel
theorem d24_4 : decode prog_13_method_9_code 4 = .ok (.areturn, 1) := by decide +kernel
theorem pn_24 : plainName "com/example/leasehold/leasehold/LeaseRequest" = true := by first | (simp [plainName, overriddenIn]; done) | decide +kernel
theorem ef_rmG0 (m : MethodId) (x0 : Addr) : entryFrame m #[(.ref x0)] 1 = mkF m 0 #[.val (.ref x0)] [] := by first | (simp [entryFrame, mkF, argsToLocals, Value.category]; done) | rfl
def QG0 (Z : State) (a : Addr) (y : Addr) (h0 : Heap) (n0 : Nat) (v : Option Value) (h : Heap) (L : List Loc) : Prop := v = some (.ref y) ∧ Fr n0 L ∧ h = h0
set_option maxRecDepth 65536 in
set_option maxHeartbeats 40000000 in
theorem rmG0 (l : Launch) (Z : State) (a0 : Array Value) (hw : ∀ d ∈ tables_1, d.before a0 Z = true) (ws : List Jvm.Cond) (a : Addr) (y : Addr) (h0 : Heap) (n0 : Nat) (Z0 : n0 ≤ h0.size) (F_g : Fld Z h0 a "com/example/leasehold/leasehold/LeaseRequest" "holder" "Ljava/lang/String;" (.ref y)) :
    MetFree l (⟨"com/example/leasehold/leasehold/LeaseRequest", "holder", "()Ljava/lang/String;"⟩ : MethodName) (head1 (Jvm.Cond.code (⟨"com/example/leasehold/leasehold/LeaseRequest", "holder", "()Ljava/lang/String;"⟩ : MethodName) prog_13_method_9_code 1 (some (.object "java/lang/String")) :: ws) ({ frames := 0, cells := 0, slots := 0, locals := 0 } : Room)) (fun ar UU => ar = #[(.ref a)] ∧ Z.Warmed39 UU.vm ∧ UU.heap = h0) (fun _ _ _ _ _ => True) (fun _ UU oo UU' => ∃ vv LL, oo = .returned vv ∧ QG0 Z a y h0 n0 vv UU'.heap LL ∧ FrameEnd UU oo UU' LL ({ frames := 0, cells := 0, slots := 0, locals := 0 } : Room).cells ({ frames := 0, cells := 0, slots := 0, locals := 0 } : Room).slots) := by
  refine MetFree.of_bodySF (plainFor_of_name pn_24) hisR ?_
  intro p e s m args below meth c s₁ Bd hml0 hP hK
  obtain ⟨rfl, hZ, hh⟩ := hP
  have hx := Bd.exec
  have hby := Bd.bytes
  have hml : c.maxLocals = 1 := hml0
  have hown : s.vm.findClass "com/example/leasehold/leasehold/LeaseRequest" = some m.cls := findClass_of_methodNamed Bd.named
  have hnm := (name_of_methodNamed Bd.named Bd.method).1
  have X0 : Stand p l e ({ frames := 0, cells := 0, slots := 0, locals := 0 } : Room) s m #[(.ref a)] below meth c s₁ [] 0 0 := Stand.of_body Bd
  have e0 : s₁.heap = h0 := by rw [← hh, Bd.state]; rfl
  have N0 := Fr.nil n0
  have KC0 : Keep h0 h0 [] := Keep.refl h0 []
  have pre0 : ∀ tgt, Steps p.tables e below (s₁.setTop (mkF m 0 #[.val (.ref a)] [])) tgt → Steps p.tables e below (s₁.setTop (entryFrame m #[(.ref a)] 1)) tgt := fun tgt kk => castTop (ef_rmG0 m (a)) kk
  have pre1 : ∀ tgt, Steps p.tables e below (s₁.setTop (mkF m 1 #[.val (.ref a)] [(.ref a)])) tgt → Steps p.tables e below (s₁.setTop (entryFrame m #[(.ref a)] 1)) tgt := by
    intro tgt kk
    refine pre0 tgt ?_
    refine XS.aloadN X0.here hx rfl (hb hby d24_0) rfl rfl ?_
    show Steps p.tables e below (s₁.setTop (mkF m 1 #[.val (.ref a)] [(.ref a)])) _
    exact kk
  obtain ⟨T2, X2, e2, st2⟩ := getF X0 hx hZ hown (host := "") (Or.inl (hw _ (List.mem_of_getElem? (i := 96) rfl))) Via.refl e0 F_g (g := (mkF m 1 #[.val (.ref a)] [(.ref a)])) rfl rfl (hb hby d24_1)
  obtain ⟨fs, hr, hrun, hended, hW, hsame⟩ := X2.leave (v := some (.ref y)) (fun h => by rw [Bd.returns] at h; cases h)
  refine ⟨_, _, pre1 _ ?_, hrun, hended, _, _, rfl, ?_, ⟨_, rfl⟩, hW, hsame.mono (by decide) (by decide)⟩
  · skip
    refine st2 _ ?_
    show Steps p.tables e below (T2.setTop (mkF m 4 #[.val (.ref a)] [(.ref y)])) _
    exact retOut X2 hx Bd.returns rfl (Or.inr (Or.inr (Or.inr (Or.inr ⟨rfl, rfl, rfl⟩)))) (hb hby d24_4) hr
  · show QG0 Z a y h0 n0 _ T2.heap _
    rw [e2]
    exact ⟨rfl, N0, rfl⟩
theorem d25_0 : decode prog_13_method_10_code 0 = .ok (.aload_n 0, 1) := by decide +kernel
theorem d25_1 : decode prog_13_method_10_code 1 = .ok (.getfield 50, 3) := by decide +kernel
theorem d25_4 : decode prog_13_method_10_code 4 = .ok (.areturn, 1) := by decide +kernel
theorem pn_25 : plainName "com/example/leasehold/leasehold/LeaseRequest" = true := by first | (simp [plainName, overriddenIn]; done) | decide +kernel
theorem ef_rmG1 (m : MethodId) (x0 : Addr) : entryFrame m #[(.ref x0)] 1 = mkF m 0 #[.val (.ref x0)] [] := by first | (simp [entryFrame, mkF, argsToLocals, Value.category]; done) | rfl
def QG1 (Z : State) (a : Addr) (y : Addr) (h0 : Heap) (n0 : Nat) (v : Option Value) (h : Heap) (L : List Loc) : Prop := v = some (.ref y) ∧ Fr n0 L ∧ h = h0
set_option maxRecDepth 65536 in
set_option maxHeartbeats 40000000 in
theorem rmG1 (l : Launch) (Z : State) (a0 : Array Value) (hw : ∀ d ∈ tables_1, d.before a0 Z = true) (ws : List Jvm.Cond) (a : Addr) (y : Addr) (h0 : Heap) (n0 : Nat) (Z0 : n0 ≤ h0.size) (F_g : Fld Z h0 a "com/example/leasehold/leasehold/LeaseRequest" "actor" "Ljava/lang/String;" (.ref y)) :
    MetFree l (⟨"com/example/leasehold/leasehold/LeaseRequest", "actor", "()Ljava/lang/String;"⟩ : MethodName) (head1 (Jvm.Cond.code (⟨"com/example/leasehold/leasehold/LeaseRequest", "actor", "()Ljava/lang/String;"⟩ : MethodName) prog_13_method_10_code 1 (some (.object "java/lang/String")) :: ws) ({ frames := 0, cells := 0, slots := 0, locals := 0 } : Room)) (fun ar UU => ar = #[(.ref a)] ∧ Z.Warmed39 UU.vm ∧ UU.heap = h0) (fun _ _ _ _ _ => True) (fun _ UU oo UU' => ∃ vv LL, oo = .returned vv ∧ QG1 Z a y h0 n0 vv UU'.heap LL ∧ FrameEnd UU oo UU' LL ({ frames := 0, cells := 0, slots := 0, locals := 0 } : Room).cells ({ frames := 0, cells := 0, slots := 0, locals := 0 } : Room).slots) := by
  refine MetFree.of_bodySF (plainFor_of_name pn_25) hisR ?_
  intro p e s m args below meth c s₁ Bd hml0 hP hK
  obtain ⟨rfl, hZ, hh⟩ := hP
  have hx := Bd.exec
  have hby := Bd.bytes
  have hml : c.maxLocals = 1 := hml0
  have hown : s.vm.findClass "com/example/leasehold/leasehold/LeaseRequest" = some m.cls := findClass_of_methodNamed Bd.named
  have hnm := (name_of_methodNamed Bd.named Bd.method).1
  have X0 : Stand p l e ({ frames := 0, cells := 0, slots := 0, locals := 0 } : Room) s m #[(.ref a)] below meth c s₁ [] 0 0 := Stand.of_body Bd
  have e0 : s₁.heap = h0 := by rw [← hh, Bd.state]; rfl
  have N0 := Fr.nil n0
  have KC0 : Keep h0 h0 [] := Keep.refl h0 []
  have pre0 : ∀ tgt, Steps p.tables e below (s₁.setTop (mkF m 0 #[.val (.ref a)] [])) tgt → Steps p.tables e below (s₁.setTop (entryFrame m #[(.ref a)] 1)) tgt := fun tgt kk => castTop (ef_rmG1 m (a)) kk
  have pre1 : ∀ tgt, Steps p.tables e below (s₁.setTop (mkF m 1 #[.val (.ref a)] [(.ref a)])) tgt → Steps p.tables e below (s₁.setTop (entryFrame m #[(.ref a)] 1)) tgt := by
    intro tgt kk
    refine pre0 tgt ?_
    refine XS.aloadN X0.here hx rfl (hb hby d25_0) rfl rfl ?_
    show Steps p.tables e below (s₁.setTop (mkF m 1 #[.val (.ref a)] [(.ref a)])) _
    exact kk
  obtain ⟨T2, X2, e2, st2⟩ := getF X0 hx hZ hown (host := "") (Or.inl (hw _ (List.mem_of_getElem? (i := 106) rfl))) Via.refl e0 F_g (g := (mkF m 1 #[.val (.ref a)] [(.ref a)])) rfl rfl (hb hby d25_1)
  obtain ⟨fs, hr, hrun, hended, hW, hsame⟩ := X2.leave (v := some (.ref y)) (fun h => by rw [Bd.returns] at h; cases h)
  refine ⟨_, _, pre1 _ ?_, hrun, hended, _, _, rfl, ?_, ⟨_, rfl⟩, hW, hsame.mono (by decide) (by decide)⟩
  · skip
    refine st2 _ ?_
    show Steps p.tables e below (T2.setTop (mkF m 4 #[.val (.ref a)] [(.ref y)])) _
    exact retOut X2 hx Bd.returns rfl (Or.inr (Or.inr (Or.inr (Or.inr ⟨rfl, rfl, rfl⟩)))) (hb hby d25_4) hr
  · show QG1 Z a y h0 n0 _ T2.heap _
    rw [e2]
    exact ⟨rfl, N0, rfl⟩
theorem d26_0 : decode prog_13_method_11_code 0 = .ok (.aload_n 0, 1) := by decide +kernel
theorem d26_1 : decode prog_13_method_11_code 1 = .ok (.getfield 55, 3) := by decide +kernel
theorem d26_4 : decode prog_13_method_11_code 4 = .ok (.areturn, 1) := by decide +kernel
theorem pn_26 : plainName "com/example/leasehold/leasehold/LeaseRequest" = true := by first | (simp [plainName, overriddenIn]; done) | decide +kernel
theorem ef_rmG2 (m : MethodId) (x0 : Addr) : entryFrame m #[(.ref x0)] 1 = mkF m 0 #[.val (.ref x0)] [] := by first | (simp [entryFrame, mkF, argsToLocals, Value.category]; done) | rfl
def QG2 (Z : State) (a : Addr) (y : Addr) (h0 : Heap) (n0 : Nat) (v : Option Value) (h : Heap) (L : List Loc) : Prop := v = some (.ref y) ∧ Fr n0 L ∧ h = h0
set_option maxRecDepth 65536 in
set_option maxHeartbeats 40000000 in
theorem rmG2 (l : Launch) (Z : State) (a0 : Array Value) (hw : ∀ d ∈ tables_1, d.before a0 Z = true) (ws : List Jvm.Cond) (a : Addr) (y : Addr) (h0 : Heap) (n0 : Nat) (Z0 : n0 ≤ h0.size) (F_g : Fld Z h0 a "com/example/leasehold/leasehold/LeaseRequest" "intent" "Ljava/lang/String;" (.ref y)) :
    MetFree l (⟨"com/example/leasehold/leasehold/LeaseRequest", "intent", "()Ljava/lang/String;"⟩ : MethodName) (head1 (Jvm.Cond.code (⟨"com/example/leasehold/leasehold/LeaseRequest", "intent", "()Ljava/lang/String;"⟩ : MethodName) prog_13_method_11_code 1 (some (.object "java/lang/String")) :: ws) ({ frames := 0, cells := 0, slots := 0, locals := 0 } : Room)) (fun ar UU => ar = #[(.ref a)] ∧ Z.Warmed39 UU.vm ∧ UU.heap = h0) (fun _ _ _ _ _ => True) (fun _ UU oo UU' => ∃ vv LL, oo = .returned vv ∧ QG2 Z a y h0 n0 vv UU'.heap LL ∧ FrameEnd UU oo UU' LL ({ frames := 0, cells := 0, slots := 0, locals := 0 } : Room).cells ({ frames := 0, cells := 0, slots := 0, locals := 0 } : Room).slots) := by
  refine MetFree.of_bodySF (plainFor_of_name pn_26) hisR ?_
  intro p e s m args below meth c s₁ Bd hml0 hP hK
  obtain ⟨rfl, hZ, hh⟩ := hP
  have hx := Bd.exec
  have hby := Bd.bytes
  have hml : c.maxLocals = 1 := hml0
  have hown : s.vm.findClass "com/example/leasehold/leasehold/LeaseRequest" = some m.cls := findClass_of_methodNamed Bd.named
  have hnm := (name_of_methodNamed Bd.named Bd.method).1
  have X0 : Stand p l e ({ frames := 0, cells := 0, slots := 0, locals := 0 } : Room) s m #[(.ref a)] below meth c s₁ [] 0 0 := Stand.of_body Bd
  have e0 : s₁.heap = h0 := by rw [← hh, Bd.state]; rfl
  have N0 := Fr.nil n0
  have KC0 : Keep h0 h0 [] := Keep.refl h0 []
  have pre0 : ∀ tgt, Steps p.tables e below (s₁.setTop (mkF m 0 #[.val (.ref a)] [])) tgt → Steps p.tables e below (s₁.setTop (entryFrame m #[(.ref a)] 1)) tgt := fun tgt kk => castTop (ef_rmG2 m (a)) kk
  have pre1 : ∀ tgt, Steps p.tables e below (s₁.setTop (mkF m 1 #[.val (.ref a)] [(.ref a)])) tgt → Steps p.tables e below (s₁.setTop (entryFrame m #[(.ref a)] 1)) tgt := by
    intro tgt kk
    refine pre0 tgt ?_
    refine XS.aloadN X0.here hx rfl (hb hby d26_0) rfl rfl ?_
    show Steps p.tables e below (s₁.setTop (mkF m 1 #[.val (.ref a)] [(.ref a)])) _
    exact kk
  obtain ⟨T2, X2, e2, st2⟩ := getF X0 hx hZ hown (host := "") (Or.inl (hw _ (List.mem_of_getElem? (i := 109) rfl))) Via.refl e0 F_g (g := (mkF m 1 #[.val (.ref a)] [(.ref a)])) rfl rfl (hb hby d26_1)
  obtain ⟨fs, hr, hrun, hended, hW, hsame⟩ := X2.leave (v := some (.ref y)) (fun h => by rw [Bd.returns] at h; cases h)
  refine ⟨_, _, pre1 _ ?_, hrun, hended, _, _, rfl, ?_, ⟨_, rfl⟩, hW, hsame.mono (by decide) (by decide)⟩
  · skip
    refine st2 _ ?_
    show Steps p.tables e below (T2.setTop (mkF m 4 #[.val (.ref a)] [(.ref y)])) _
    exact retOut X2 hx Bd.returns rfl (Or.inr (Or.inr (Or.inr (Or.inr ⟨rfl, rfl, rfl⟩)))) (hb hby d26_4) hr
  · show QG2 Z a y h0 n0 _ T2.heap _
    rw [e2]
    exact ⟨rfl, N0, rfl⟩
theorem d27_0 : decode prog_13_method_12_code 0 = .ok (.aload_n 0, 1) := by decide +kernel
theorem d27_1 : decode prog_13_method_12_code 1 = .ok (.getfield 60, 3) := by decide +kernel
theorem d27_4 : decode prog_13_method_12_code 4 = .ok (.areturn, 1) := by decide +kernel
theorem pn_27 : plainName "com/example/leasehold/leasehold/LeaseRequest" = true := by first | (simp [plainName, overriddenIn]; done) | decide +kernel
theorem ef_rmG3 (m : MethodId) (x0 : Addr) : entryFrame m #[(.ref x0)] 1 = mkF m 0 #[.val (.ref x0)] [] := by first | (simp [entryFrame, mkF, argsToLocals, Value.category]; done) | rfl
def QG3 (Z : State) (a : Addr) (y : Addr) (h0 : Heap) (n0 : Nat) (v : Option Value) (h : Heap) (L : List Loc) : Prop := v = some (.ref y) ∧ Fr n0 L ∧ h = h0
set_option maxRecDepth 65536 in
set_option maxHeartbeats 40000000 in
theorem rmG3 (l : Launch) (Z : State) (a0 : Array Value) (hw : ∀ d ∈ tables_1, d.before a0 Z = true) (ws : List Jvm.Cond) (a : Addr) (y : Addr) (h0 : Heap) (n0 : Nat) (Z0 : n0 ≤ h0.size) (F_g : Fld Z h0 a "com/example/leasehold/leasehold/LeaseRequest" "intentVersion" "Ljava/lang/String;" (.ref y)) :
    MetFree l (⟨"com/example/leasehold/leasehold/LeaseRequest", "intentVersion", "()Ljava/lang/String;"⟩ : MethodName) (head1 (Jvm.Cond.code (⟨"com/example/leasehold/leasehold/LeaseRequest", "intentVersion", "()Ljava/lang/String;"⟩ : MethodName) prog_13_method_12_code 1 (some (.object "java/lang/String")) :: ws) ({ frames := 0, cells := 0, slots := 0, locals := 0 } : Room)) (fun ar UU => ar = #[(.ref a)] ∧ Z.Warmed39 UU.vm ∧ UU.heap = h0) (fun _ _ _ _ _ => True) (fun _ UU oo UU' => ∃ vv LL, oo = .returned vv ∧ QG3 Z a y h0 n0 vv UU'.heap LL ∧ FrameEnd UU oo UU' LL ({ frames := 0, cells := 0, slots := 0, locals := 0 } : Room).cells ({ frames := 0, cells := 0, slots := 0, locals := 0 } : Room).slots) := by
  refine MetFree.of_bodySF (plainFor_of_name pn_27) hisR ?_
  intro p e s m args below meth c s₁ Bd hml0 hP hK
  obtain ⟨rfl, hZ, hh⟩ := hP
  have hx := Bd.exec
  have hby := Bd.bytes
  have hml : c.maxLocals = 1 := hml0
  have hown : s.vm.findClass "com/example/leasehold/leasehold/LeaseRequest" = some m.cls := findClass_of_methodNamed Bd.named
  have hnm := (name_of_methodNamed Bd.named Bd.method).1
  have X0 : Stand p l e ({ frames := 0, cells := 0, slots := 0, locals := 0 } : Room) s m #[(.ref a)] below meth c s₁ [] 0 0 := Stand.of_body Bd
  have e0 : s₁.heap = h0 := by rw [← hh, Bd.state]; rfl
  have N0 := Fr.nil n0
  have KC0 : Keep h0 h0 [] := Keep.refl h0 []
  have pre0 : ∀ tgt, Steps p.tables e below (s₁.setTop (mkF m 0 #[.val (.ref a)] [])) tgt → Steps p.tables e below (s₁.setTop (entryFrame m #[(.ref a)] 1)) tgt := fun tgt kk => castTop (ef_rmG3 m (a)) kk
  have pre1 : ∀ tgt, Steps p.tables e below (s₁.setTop (mkF m 1 #[.val (.ref a)] [(.ref a)])) tgt → Steps p.tables e below (s₁.setTop (entryFrame m #[(.ref a)] 1)) tgt := by
    intro tgt kk
    refine pre0 tgt ?_
    refine XS.aloadN X0.here hx rfl (hb hby d27_0) rfl rfl ?_
    show Steps p.tables e below (s₁.setTop (mkF m 1 #[.val (.ref a)] [(.ref a)])) _
    exact kk
  obtain ⟨T2, X2, e2, st2⟩ := getF X0 hx hZ hown (host := "") (Or.inl (hw _ (List.mem_of_getElem? (i := 112) rfl))) Via.refl e0 F_g (g := (mkF m 1 #[.val (.ref a)] [(.ref a)])) rfl rfl (hb hby d27_1)
  obtain ⟨fs, hr, hrun, hended, hW, hsame⟩ := X2.leave (v := some (.ref y)) (fun h => by rw [Bd.returns] at h; cases h)
  refine ⟨_, _, pre1 _ ?_, hrun, hended, _, _, rfl, ?_, ⟨_, rfl⟩, hW, hsame.mono (by decide) (by decide)⟩
  · skip
    refine st2 _ ?_
    show Steps p.tables e below (T2.setTop (mkF m 4 #[.val (.ref a)] [(.ref y)])) _
    exact retOut X2 hx Bd.returns rfl (Or.inr (Or.inr (Or.inr (Or.inr ⟨rfl, rfl, rfl⟩)))) (hb hby d27_4) hr
  · show QG3 Z a y h0 n0 _ T2.heap _
    rw [e2]
    exact ⟨rfl, N0, rfl⟩
theorem d22_0 : decode prog_28_method_6_code 0 = .ok (.aload_n 0, 1) := by decide +kernel
theorem d22_1 : decode prog_28_method_6_code 1 = .ok (.invokevirtual 42, 3) := by decide +kernel
theorem d22_4 : decode prog_28_method_6_code 4 = .ok (.tableswitch 32 0 3 #[42, 49, 56, 63], 32) := by decide +kernel
theorem d22_46 : decode prog_28_method_6_code 46 = .ok (.aload_n 1, 1) := by decide +kernel
theorem d22_47 : decode prog_28_method_6_code 47 = .ok (.invokevirtual 51, 3) := by decide +kernel
theorem d22_50 : decode prog_28_method_6_code 50 = .ok (.goto 21, 3) := by decide +kernel
theorem d22_71 : decode prog_28_method_6_code 71 = .ok (.areturn, 1) := by decide +kernel
theorem pn_22 : plainName "com/example/leasehold/leasehold/RecordedValue" = true := by first | (simp [plainName, overriddenIn]; done) | decide +kernel
theorem pd___Ljava_lang_String_ : parseMethodDescriptor "()Ljava/lang/String;" = some ⟨[], some (.object "java/lang/String")⟩ := by decide +kernel
theorem ef_rmIn0 (m : MethodId) (x0 : Addr) (x1 : Addr) : entryFrame m #[(.ref x0), (.ref x1)] 2 = mkF m 0 #[.val (.ref x0), .val (.ref x1)] [] := by first | (simp [entryFrame, mkF, argsToLocals, Value.category]; done) | rfl
def QIn0 (Z : State) (a : Addr) (r : Addr) (y : Addr) (h0 : Heap) (n0 : Nat) (v : Option Value) (h : Heap) (L : List Loc) : Prop := v = some (.ref y) ∧ Fr n0 L ∧ h = h0
set_option maxRecDepth 65536 in
set_option maxHeartbeats 40000000 in
theorem rmIn0 (l : Launch) (Z : State) (a0 : Array Value) (hw : ∀ d ∈ tables_1, d.before a0 Z = true) (ws : List Jvm.Cond) (a : Addr) (r : Addr) (y : Addr) (h0 : Heap) (n0 : Nat) (Z0 : n0 ≤ h0.size) (E_a : Exa Z h0 a "com/example/leasehold/leasehold/RecordedValue") (F_o : Fld Z h0 a "java/lang/Enum" "ordinal" "I" (.int (0 : Int32))) (E_r : Exa Z h0 r "com/example/leasehold/leasehold/LeaseRequest") (F_g : Fld Z h0 r "com/example/leasehold/leasehold/LeaseRequest" "holder" "Ljava/lang/String;" (.ref y)) :
    MetFree l (⟨"com/example/leasehold/leasehold/RecordedValue", "in", "(Lcom/example/leasehold/leasehold/LeaseRequest;)Ljava/lang/String;"⟩ : MethodName) (head1 (Jvm.Cond.code (⟨"com/example/leasehold/leasehold/RecordedValue", "in", "(Lcom/example/leasehold/leasehold/LeaseRequest;)Ljava/lang/String;"⟩ : MethodName) prog_28_method_6_code 2 (some (.object "java/lang/String")) :: ws) ({ frames := 1, cells := 0, slots := 0, locals := 12 } : Room)) (fun ar UU => ar = #[(.ref a), (.ref r)] ∧ Z.Warmed39 UU.vm ∧ UU.heap = h0) (fun _ _ _ _ _ => True) (fun _ UU oo UU' => ∃ vv LL, oo = .returned vv ∧ QIn0 Z a r y h0 n0 vv UU'.heap LL ∧ FrameEnd UU oo UU' LL ({ frames := 1, cells := 0, slots := 0, locals := 12 } : Room).cells ({ frames := 1, cells := 0, slots := 0, locals := 12 } : Room).slots) := by
  refine MetFree.of_bodySF (plainFor_of_name pn_22) hisR ?_
  intro p e s m args below meth c s₁ Bd hml0 hP hK
  obtain ⟨rfl, hZ, hh⟩ := hP
  have hx := Bd.exec
  have hby := Bd.bytes
  have hml : c.maxLocals = 2 := hml0
  have hown : s.vm.findClass "com/example/leasehold/leasehold/RecordedValue" = some m.cls := findClass_of_methodNamed Bd.named
  have hnm := (name_of_methodNamed Bd.named Bd.method).1
  have X0 : Stand p l e ({ frames := 1, cells := 0, slots := 0, locals := 12 } : Room) s m #[(.ref a), (.ref r)] below meth c s₁ [] 0 0 := Stand.of_body Bd
  have e0 : s₁.heap = h0 := by rw [← hh, Bd.state]; rfl
  have N0 := Fr.nil n0
  have KC0 : Keep h0 h0 [] := Keep.refl h0 []
  have pre0 : ∀ tgt, Steps p.tables e below (s₁.setTop (mkF m 0 #[.val (.ref a), .val (.ref r)] [])) tgt → Steps p.tables e below (s₁.setTop (entryFrame m #[(.ref a), (.ref r)] 2)) tgt := fun tgt kk => castTop (ef_rmIn0 m (a) (r)) kk
  have pre1 : ∀ tgt, Steps p.tables e below (s₁.setTop (mkF m 1 #[.val (.ref a), .val (.ref r)] [(.ref a)])) tgt → Steps p.tables e below (s₁.setTop (entryFrame m #[(.ref a), (.ref r)] 2)) tgt := by
    intro tgt kk
    refine pre0 tgt ?_
    refine XS.aloadN X0.here hx rfl (hb hby d22_0) rfl rfl ?_
    show Steps p.tables e below (s₁.setTop (mkF m 1 #[.val (.ref a), .val (.ref r)] [(.ref a)])) _
    exact kk
  obtain ⟨cq2, kq2, q2a, q2b, q2c⟩ := isOf hZ e0 E_a
  obtain ⟨_, _, ⟨T2, L2, k2, n2⟩, -, X2, ⟨Lc2, hQ2, l2, y2, z2⟩, st2⟩ := X0.virtualBackUp hx (x := (⟨"com/example/leasehold/leasehold/RecordedValue", "ordinal", "()I"⟩ : MethodName)) (y := (⟨"java/lang/Enum", "ordinal", "()I"⟩ : MethodName)) (owner := "java/lang/Enum") hown (mvT hZ (hw _ (List.mem_of_getElem? (i := 129) rfl))) (mvT hZ (hw _ (List.mem_of_getElem? (i := 130) rfl))) (mvT hZ (hw _ (List.mem_of_getElem? (i := 131) rfl))) (by decide) (mvT hZ (hw _ (List.mem_of_getElem? (i := 133) rfl))) (mvT hZ (hw _ (List.mem_of_getElem? (i := 132) rfl))) (backOf (W := 0) (rmOrd l Z a0 hw [] a ((0 : Int32)) h0 n0 Z0 F_o) hZ (hw _ (List.mem_of_getElem? (i := 135) rfl)) (hw _ (List.mem_of_getElem? (i := 134) rfl)) (by decide) (by decide)) q2a q2c (g := (mkF m 1 #[.val (.ref a), .val (.ref r)] [(.ref a)])) rfl (by rw [hml]; rfl) (Steps.refl _) (argsL := []) (rest := []) (lenOf pd___I rfl) rfl (by show 2 * 0 + _ ≤ _; exact Nat.le_of_eq rfl) (hb hby d22_1) (fun _ _ => ⟨rfl, e0, (by decide : 0 + 0 ≤ _), (by decide : 0 + 0 ≤ _)⟩)
  dsimp only [Pt.U, Pt.locs, Pt.cells, Pt.slots] at X2 l2 y2 z2 st2 hQ2
  subst l2 y2 z2
  obtain ⟨rfl, N2q, hh2⟩ := hQ2
  have N2 := Fr.app N0 N2q
  have pre3 : ∀ tgt, Steps p.tables e below (T2.setTop (mkF m 47 #[.val (.ref a), .val (.ref r)] [(.ref r)])) tgt → Steps p.tables e below (s₁.setTop (entryFrame m #[(.ref a), (.ref r)] 2)) tgt := by
    intro tgt kk
    refine pre1 tgt ?_
    refine st2.trans ?_
    show Steps p.tables e below (T2.setTop (mkF m 4 #[.val (.ref a), .val (.ref r)] [(.int (0 : Int32))])) _
    refine XS.tswIn X2.here hx rfl (pc0 := 4) (pc' := 46) rfl (hb hby d22_4) rfl (by decide) (o := 42) rfl (by decide) (by decide) ?_
    show Steps p.tables e below (T2.setTop (mkF m 46 #[.val (.ref a), .val (.ref r)] [])) _
    refine XS.aloadN X2.here hx rfl (hb hby d22_46) rfl rfl ?_
    show Steps p.tables e below (T2.setTop (mkF m 47 #[.val (.ref a), .val (.ref r)] [(.ref r)])) _
    exact kk
  obtain ⟨cq4, kq4, q4a, q4b, q4c⟩ := isOf hZ hh2 E_r
  obtain ⟨_, _, ⟨T4, L4, k4, n4⟩, -, X4, ⟨Lc4, hQ4, l4, y4, z4⟩, st4⟩ := X2.virtualBack hx (y := (⟨"com/example/leasehold/leasehold/LeaseRequest", "holder", "()Ljava/lang/String;"⟩ : MethodName)) (z := (⟨"com/example/leasehold/leasehold/LeaseRequest", "holder", "()Ljava/lang/String;"⟩ : MethodName)) hown (mvT hZ (hw _ (List.mem_of_getElem? (i := 138) rfl))) (mvT hZ (hw _ (List.mem_of_getElem? (i := 139) rfl))) (notFace_of_selects (args := #[]) (mvT hZ (hw _ (List.mem_of_getElem? (i := 141) rfl)))) (mvT hZ (hw _ (List.mem_of_getElem? (i := 141) rfl))) (mvT hZ (hw _ (List.mem_of_getElem? (i := 140) rfl))) (by decide) (backOf (W := 0) (rmG0 l Z a0 hw [] r y h0 n0 Z0 F_g) hZ (hw _ (List.mem_of_getElem? (i := 142) rfl)) (hw _ (List.mem_of_getElem? (i := 36) rfl)) (by decide) (by decide)) q4a q4c (g := (mkF m 47 #[.val (.ref a), .val (.ref r)] [(.ref r)])) rfl (by rw [hml]; rfl) (Steps.refl _) (argsL := []) (rest := []) (lenOf pd___Ljava_lang_String_ rfl) rfl (by show 2 * 0 + _ ≤ _; exact Nat.le_of_eq rfl) (hb hby d22_47) (fun _ _ => ⟨rfl, hh2, (by decide : 0 + 0 ≤ _), (by decide : 0 + 0 ≤ _)⟩)
  dsimp only [Pt.U, Pt.locs, Pt.cells, Pt.slots] at X4 l4 y4 z4 st4 hQ4
  subst l4 y4 z4
  obtain ⟨rfl, N4q, hh4⟩ := hQ4
  have N4 := Fr.app N2 N4q
  obtain ⟨fs, hr, hrun, hended, hW, hsame⟩ := X4.leave (v := some (.ref y)) (fun h => by rw [Bd.returns] at h; cases h)
  refine ⟨_, _, pre3 _ ?_, hrun, hended, _, _, rfl, ?_, ⟨_, rfl⟩, hW, hsame.mono (by decide) (by decide)⟩
  · skip
    refine st4.trans ?_
    show Steps p.tables e below (T4.setTop (mkF m 50 #[.val (.ref a), .val (.ref r)] [(.ref y)])) _
    refine XS.goto X4.here hx rfl (pc0 := 50) (pc' := 71) rfl (hb hby d22_50) (by decide) (by decide) ?_
    show Steps p.tables e below (T4.setTop (mkF m 71 #[.val (.ref a), .val (.ref r)] [(.ref y)])) _
    exact retOut X4 hx Bd.returns rfl (Or.inr (Or.inr (Or.inr (Or.inr ⟨rfl, rfl, rfl⟩)))) (hb hby d22_71) hr
  · show QIn0 Z a r y h0 n0 _ T4.heap _
    rw [hh4]
    exact ⟨rfl, N4, rfl⟩
theorem d22_53 : decode prog_28_method_6_code 53 = .ok (.aload_n 1, 1) := by decide +kernel
theorem d22_54 : decode prog_28_method_6_code 54 = .ok (.invokevirtual 57, 3) := by decide +kernel
theorem d22_57 : decode prog_28_method_6_code 57 = .ok (.goto 14, 3) := by decide +kernel
theorem ef_rmIn1 (m : MethodId) (x0 : Addr) (x1 : Addr) : entryFrame m #[(.ref x0), (.ref x1)] 2 = mkF m 0 #[.val (.ref x0), .val (.ref x1)] [] := by first | (simp [entryFrame, mkF, argsToLocals, Value.category]; done) | rfl
def QIn1 (Z : State) (a : Addr) (r : Addr) (y : Addr) (h0 : Heap) (n0 : Nat) (v : Option Value) (h : Heap) (L : List Loc) : Prop := v = some (.ref y) ∧ Fr n0 L ∧ h = h0
set_option maxRecDepth 65536 in
set_option maxHeartbeats 40000000 in
theorem rmIn1 (l : Launch) (Z : State) (a0 : Array Value) (hw : ∀ d ∈ tables_1, d.before a0 Z = true) (ws : List Jvm.Cond) (a : Addr) (r : Addr) (y : Addr) (h0 : Heap) (n0 : Nat) (Z0 : n0 ≤ h0.size) (E_a : Exa Z h0 a "com/example/leasehold/leasehold/RecordedValue") (F_o : Fld Z h0 a "java/lang/Enum" "ordinal" "I" (.int (1 : Int32))) (E_r : Exa Z h0 r "com/example/leasehold/leasehold/LeaseRequest") (F_g : Fld Z h0 r "com/example/leasehold/leasehold/LeaseRequest" "actor" "Ljava/lang/String;" (.ref y)) :
    MetFree l (⟨"com/example/leasehold/leasehold/RecordedValue", "in", "(Lcom/example/leasehold/leasehold/LeaseRequest;)Ljava/lang/String;"⟩ : MethodName) (head1 (Jvm.Cond.code (⟨"com/example/leasehold/leasehold/RecordedValue", "in", "(Lcom/example/leasehold/leasehold/LeaseRequest;)Ljava/lang/String;"⟩ : MethodName) prog_28_method_6_code 2 (some (.object "java/lang/String")) :: ws) ({ frames := 1, cells := 0, slots := 0, locals := 12 } : Room)) (fun ar UU => ar = #[(.ref a), (.ref r)] ∧ Z.Warmed39 UU.vm ∧ UU.heap = h0) (fun _ _ _ _ _ => True) (fun _ UU oo UU' => ∃ vv LL, oo = .returned vv ∧ QIn1 Z a r y h0 n0 vv UU'.heap LL ∧ FrameEnd UU oo UU' LL ({ frames := 1, cells := 0, slots := 0, locals := 12 } : Room).cells ({ frames := 1, cells := 0, slots := 0, locals := 12 } : Room).slots) := by
  refine MetFree.of_bodySF (plainFor_of_name pn_22) hisR ?_
  intro p e s m args below meth c s₁ Bd hml0 hP hK
  obtain ⟨rfl, hZ, hh⟩ := hP
  have hx := Bd.exec
  have hby := Bd.bytes
  have hml : c.maxLocals = 2 := hml0
  have hown : s.vm.findClass "com/example/leasehold/leasehold/RecordedValue" = some m.cls := findClass_of_methodNamed Bd.named
  have hnm := (name_of_methodNamed Bd.named Bd.method).1
  have X0 : Stand p l e ({ frames := 1, cells := 0, slots := 0, locals := 12 } : Room) s m #[(.ref a), (.ref r)] below meth c s₁ [] 0 0 := Stand.of_body Bd
  have e0 : s₁.heap = h0 := by rw [← hh, Bd.state]; rfl
  have N0 := Fr.nil n0
  have KC0 : Keep h0 h0 [] := Keep.refl h0 []
  have pre0 : ∀ tgt, Steps p.tables e below (s₁.setTop (mkF m 0 #[.val (.ref a), .val (.ref r)] [])) tgt → Steps p.tables e below (s₁.setTop (entryFrame m #[(.ref a), (.ref r)] 2)) tgt := fun tgt kk => castTop (ef_rmIn1 m (a) (r)) kk
  have pre1 : ∀ tgt, Steps p.tables e below (s₁.setTop (mkF m 1 #[.val (.ref a), .val (.ref r)] [(.ref a)])) tgt → Steps p.tables e below (s₁.setTop (entryFrame m #[(.ref a), (.ref r)] 2)) tgt := by
    intro tgt kk
    refine pre0 tgt ?_
    refine XS.aloadN X0.here hx rfl (hb hby d22_0) rfl rfl ?_
    show Steps p.tables e below (s₁.setTop (mkF m 1 #[.val (.ref a), .val (.ref r)] [(.ref a)])) _
    exact kk
  obtain ⟨cq2, kq2, q2a, q2b, q2c⟩ := isOf hZ e0 E_a
  obtain ⟨_, _, ⟨T2, L2, k2, n2⟩, -, X2, ⟨Lc2, hQ2, l2, y2, z2⟩, st2⟩ := X0.virtualBackUp hx (x := (⟨"com/example/leasehold/leasehold/RecordedValue", "ordinal", "()I"⟩ : MethodName)) (y := (⟨"java/lang/Enum", "ordinal", "()I"⟩ : MethodName)) (owner := "java/lang/Enum") hown (mvT hZ (hw _ (List.mem_of_getElem? (i := 129) rfl))) (mvT hZ (hw _ (List.mem_of_getElem? (i := 130) rfl))) (mvT hZ (hw _ (List.mem_of_getElem? (i := 131) rfl))) (by decide) (mvT hZ (hw _ (List.mem_of_getElem? (i := 133) rfl))) (mvT hZ (hw _ (List.mem_of_getElem? (i := 132) rfl))) (backOf (W := 0) (rmOrd l Z a0 hw [] a ((1 : Int32)) h0 n0 Z0 F_o) hZ (hw _ (List.mem_of_getElem? (i := 135) rfl)) (hw _ (List.mem_of_getElem? (i := 134) rfl)) (by decide) (by decide)) q2a q2c (g := (mkF m 1 #[.val (.ref a), .val (.ref r)] [(.ref a)])) rfl (by rw [hml]; rfl) (Steps.refl _) (argsL := []) (rest := []) (lenOf pd___I rfl) rfl (by show 2 * 0 + _ ≤ _; exact Nat.le_of_eq rfl) (hb hby d22_1) (fun _ _ => ⟨rfl, e0, (by decide : 0 + 0 ≤ _), (by decide : 0 + 0 ≤ _)⟩)
  dsimp only [Pt.U, Pt.locs, Pt.cells, Pt.slots] at X2 l2 y2 z2 st2 hQ2
  subst l2 y2 z2
  obtain ⟨rfl, N2q, hh2⟩ := hQ2
  have N2 := Fr.app N0 N2q
  have pre3 : ∀ tgt, Steps p.tables e below (T2.setTop (mkF m 54 #[.val (.ref a), .val (.ref r)] [(.ref r)])) tgt → Steps p.tables e below (s₁.setTop (entryFrame m #[(.ref a), (.ref r)] 2)) tgt := by
    intro tgt kk
    refine pre1 tgt ?_
    refine st2.trans ?_
    show Steps p.tables e below (T2.setTop (mkF m 4 #[.val (.ref a), .val (.ref r)] [(.int (1 : Int32))])) _
    refine XS.tswIn X2.here hx rfl (pc0 := 4) (pc' := 53) rfl (hb hby d22_4) rfl (by decide) (o := 49) rfl (by decide) (by decide) ?_
    show Steps p.tables e below (T2.setTop (mkF m 53 #[.val (.ref a), .val (.ref r)] [])) _
    refine XS.aloadN X2.here hx rfl (hb hby d22_53) rfl rfl ?_
    show Steps p.tables e below (T2.setTop (mkF m 54 #[.val (.ref a), .val (.ref r)] [(.ref r)])) _
    exact kk
  obtain ⟨cq4, kq4, q4a, q4b, q4c⟩ := isOf hZ hh2 E_r
  obtain ⟨_, _, ⟨T4, L4, k4, n4⟩, -, X4, ⟨Lc4, hQ4, l4, y4, z4⟩, st4⟩ := X2.virtualBack hx (y := (⟨"com/example/leasehold/leasehold/LeaseRequest", "actor", "()Ljava/lang/String;"⟩ : MethodName)) (z := (⟨"com/example/leasehold/leasehold/LeaseRequest", "actor", "()Ljava/lang/String;"⟩ : MethodName)) hown (mvT hZ (hw _ (List.mem_of_getElem? (i := 145) rfl))) (mvT hZ (hw _ (List.mem_of_getElem? (i := 146) rfl))) (notFace_of_selects (args := #[]) (mvT hZ (hw _ (List.mem_of_getElem? (i := 148) rfl)))) (mvT hZ (hw _ (List.mem_of_getElem? (i := 148) rfl))) (mvT hZ (hw _ (List.mem_of_getElem? (i := 147) rfl))) (by decide) (backOf (W := 0) (rmG1 l Z a0 hw [] r y h0 n0 Z0 F_g) hZ (hw _ (List.mem_of_getElem? (i := 149) rfl)) (hw _ (List.mem_of_getElem? (i := 36) rfl)) (by decide) (by decide)) q4a q4c (g := (mkF m 54 #[.val (.ref a), .val (.ref r)] [(.ref r)])) rfl (by rw [hml]; rfl) (Steps.refl _) (argsL := []) (rest := []) (lenOf pd___Ljava_lang_String_ rfl) rfl (by show 2 * 0 + _ ≤ _; exact Nat.le_of_eq rfl) (hb hby d22_54) (fun _ _ => ⟨rfl, hh2, (by decide : 0 + 0 ≤ _), (by decide : 0 + 0 ≤ _)⟩)
  dsimp only [Pt.U, Pt.locs, Pt.cells, Pt.slots] at X4 l4 y4 z4 st4 hQ4
  subst l4 y4 z4
  obtain ⟨rfl, N4q, hh4⟩ := hQ4
  have N4 := Fr.app N2 N4q
  obtain ⟨fs, hr, hrun, hended, hW, hsame⟩ := X4.leave (v := some (.ref y)) (fun h => by rw [Bd.returns] at h; cases h)
  refine ⟨_, _, pre3 _ ?_, hrun, hended, _, _, rfl, ?_, ⟨_, rfl⟩, hW, hsame.mono (by decide) (by decide)⟩
  · skip
    refine st4.trans ?_
    show Steps p.tables e below (T4.setTop (mkF m 57 #[.val (.ref a), .val (.ref r)] [(.ref y)])) _
    refine XS.goto X4.here hx rfl (pc0 := 57) (pc' := 71) rfl (hb hby d22_57) (by decide) (by decide) ?_
    show Steps p.tables e below (T4.setTop (mkF m 71 #[.val (.ref a), .val (.ref r)] [(.ref y)])) _
    exact retOut X4 hx Bd.returns rfl (Or.inr (Or.inr (Or.inr (Or.inr ⟨rfl, rfl, rfl⟩)))) (hb hby d22_71) hr
  · show QIn1 Z a r y h0 n0 _ T4.heap _
    rw [hh4]
    exact ⟨rfl, N4, rfl⟩
theorem d22_60 : decode prog_28_method_6_code 60 = .ok (.aload_n 1, 1) := by decide +kernel
theorem d22_61 : decode prog_28_method_6_code 61 = .ok (.invokevirtual 60, 3) := by decide +kernel
theorem d22_64 : decode prog_28_method_6_code 64 = .ok (.goto 7, 3) := by decide +kernel
theorem ef_rmIn2 (m : MethodId) (x0 : Addr) (x1 : Addr) : entryFrame m #[(.ref x0), (.ref x1)] 2 = mkF m 0 #[.val (.ref x0), .val (.ref x1)] [] := by first | (simp [entryFrame, mkF, argsToLocals, Value.category]; done) | rfl
def QIn2 (Z : State) (a : Addr) (r : Addr) (y : Addr) (h0 : Heap) (n0 : Nat) (v : Option Value) (h : Heap) (L : List Loc) : Prop := v = some (.ref y) ∧ Fr n0 L ∧ h = h0
set_option maxRecDepth 65536 in
set_option maxHeartbeats 40000000 in
theorem rmIn2 (l : Launch) (Z : State) (a0 : Array Value) (hw : ∀ d ∈ tables_1, d.before a0 Z = true) (ws : List Jvm.Cond) (a : Addr) (r : Addr) (y : Addr) (h0 : Heap) (n0 : Nat) (Z0 : n0 ≤ h0.size) (E_a : Exa Z h0 a "com/example/leasehold/leasehold/RecordedValue") (F_o : Fld Z h0 a "java/lang/Enum" "ordinal" "I" (.int (2 : Int32))) (E_r : Exa Z h0 r "com/example/leasehold/leasehold/LeaseRequest") (F_g : Fld Z h0 r "com/example/leasehold/leasehold/LeaseRequest" "intent" "Ljava/lang/String;" (.ref y)) :
    MetFree l (⟨"com/example/leasehold/leasehold/RecordedValue", "in", "(Lcom/example/leasehold/leasehold/LeaseRequest;)Ljava/lang/String;"⟩ : MethodName) (head1 (Jvm.Cond.code (⟨"com/example/leasehold/leasehold/RecordedValue", "in", "(Lcom/example/leasehold/leasehold/LeaseRequest;)Ljava/lang/String;"⟩ : MethodName) prog_28_method_6_code 2 (some (.object "java/lang/String")) :: ws) ({ frames := 1, cells := 0, slots := 0, locals := 12 } : Room)) (fun ar UU => ar = #[(.ref a), (.ref r)] ∧ Z.Warmed39 UU.vm ∧ UU.heap = h0) (fun _ _ _ _ _ => True) (fun _ UU oo UU' => ∃ vv LL, oo = .returned vv ∧ QIn2 Z a r y h0 n0 vv UU'.heap LL ∧ FrameEnd UU oo UU' LL ({ frames := 1, cells := 0, slots := 0, locals := 12 } : Room).cells ({ frames := 1, cells := 0, slots := 0, locals := 12 } : Room).slots) := by
  refine MetFree.of_bodySF (plainFor_of_name pn_22) hisR ?_
  intro p e s m args below meth c s₁ Bd hml0 hP hK
  obtain ⟨rfl, hZ, hh⟩ := hP
  have hx := Bd.exec
  have hby := Bd.bytes
  have hml : c.maxLocals = 2 := hml0
  have hown : s.vm.findClass "com/example/leasehold/leasehold/RecordedValue" = some m.cls := findClass_of_methodNamed Bd.named
  have hnm := (name_of_methodNamed Bd.named Bd.method).1
  have X0 : Stand p l e ({ frames := 1, cells := 0, slots := 0, locals := 12 } : Room) s m #[(.ref a), (.ref r)] below meth c s₁ [] 0 0 := Stand.of_body Bd
  have e0 : s₁.heap = h0 := by rw [← hh, Bd.state]; rfl
  have N0 := Fr.nil n0
  have KC0 : Keep h0 h0 [] := Keep.refl h0 []
  have pre0 : ∀ tgt, Steps p.tables e below (s₁.setTop (mkF m 0 #[.val (.ref a), .val (.ref r)] [])) tgt → Steps p.tables e below (s₁.setTop (entryFrame m #[(.ref a), (.ref r)] 2)) tgt := fun tgt kk => castTop (ef_rmIn2 m (a) (r)) kk
  have pre1 : ∀ tgt, Steps p.tables e below (s₁.setTop (mkF m 1 #[.val (.ref a), .val (.ref r)] [(.ref a)])) tgt → Steps p.tables e below (s₁.setTop (entryFrame m #[(.ref a), (.ref r)] 2)) tgt := by
    intro tgt kk
    refine pre0 tgt ?_
    refine XS.aloadN X0.here hx rfl (hb hby d22_0) rfl rfl ?_
    show Steps p.tables e below (s₁.setTop (mkF m 1 #[.val (.ref a), .val (.ref r)] [(.ref a)])) _
    exact kk
  obtain ⟨cq2, kq2, q2a, q2b, q2c⟩ := isOf hZ e0 E_a
  obtain ⟨_, _, ⟨T2, L2, k2, n2⟩, -, X2, ⟨Lc2, hQ2, l2, y2, z2⟩, st2⟩ := X0.virtualBackUp hx (x := (⟨"com/example/leasehold/leasehold/RecordedValue", "ordinal", "()I"⟩ : MethodName)) (y := (⟨"java/lang/Enum", "ordinal", "()I"⟩ : MethodName)) (owner := "java/lang/Enum") hown (mvT hZ (hw _ (List.mem_of_getElem? (i := 129) rfl))) (mvT hZ (hw _ (List.mem_of_getElem? (i := 130) rfl))) (mvT hZ (hw _ (List.mem_of_getElem? (i := 131) rfl))) (by decide) (mvT hZ (hw _ (List.mem_of_getElem? (i := 133) rfl))) (mvT hZ (hw _ (List.mem_of_getElem? (i := 132) rfl))) (backOf (W := 0) (rmOrd l Z a0 hw [] a ((2 : Int32)) h0 n0 Z0 F_o) hZ (hw _ (List.mem_of_getElem? (i := 135) rfl)) (hw _ (List.mem_of_getElem? (i := 134) rfl)) (by decide) (by decide)) q2a q2c (g := (mkF m 1 #[.val (.ref a), .val (.ref r)] [(.ref a)])) rfl (by rw [hml]; rfl) (Steps.refl _) (argsL := []) (rest := []) (lenOf pd___I rfl) rfl (by show 2 * 0 + _ ≤ _; exact Nat.le_of_eq rfl) (hb hby d22_1) (fun _ _ => ⟨rfl, e0, (by decide : 0 + 0 ≤ _), (by decide : 0 + 0 ≤ _)⟩)
  dsimp only [Pt.U, Pt.locs, Pt.cells, Pt.slots] at X2 l2 y2 z2 st2 hQ2
  subst l2 y2 z2
  obtain ⟨rfl, N2q, hh2⟩ := hQ2
  have N2 := Fr.app N0 N2q
  have pre3 : ∀ tgt, Steps p.tables e below (T2.setTop (mkF m 61 #[.val (.ref a), .val (.ref r)] [(.ref r)])) tgt → Steps p.tables e below (s₁.setTop (entryFrame m #[(.ref a), (.ref r)] 2)) tgt := by
    intro tgt kk
    refine pre1 tgt ?_
    refine st2.trans ?_
    show Steps p.tables e below (T2.setTop (mkF m 4 #[.val (.ref a), .val (.ref r)] [(.int (2 : Int32))])) _
    refine XS.tswIn X2.here hx rfl (pc0 := 4) (pc' := 60) rfl (hb hby d22_4) rfl (by decide) (o := 56) rfl (by decide) (by decide) ?_
    show Steps p.tables e below (T2.setTop (mkF m 60 #[.val (.ref a), .val (.ref r)] [])) _
    refine XS.aloadN X2.here hx rfl (hb hby d22_60) rfl rfl ?_
    show Steps p.tables e below (T2.setTop (mkF m 61 #[.val (.ref a), .val (.ref r)] [(.ref r)])) _
    exact kk
  obtain ⟨cq4, kq4, q4a, q4b, q4c⟩ := isOf hZ hh2 E_r
  obtain ⟨_, _, ⟨T4, L4, k4, n4⟩, -, X4, ⟨Lc4, hQ4, l4, y4, z4⟩, st4⟩ := X2.virtualBack hx (y := (⟨"com/example/leasehold/leasehold/LeaseRequest", "intent", "()Ljava/lang/String;"⟩ : MethodName)) (z := (⟨"com/example/leasehold/leasehold/LeaseRequest", "intent", "()Ljava/lang/String;"⟩ : MethodName)) hown (mvT hZ (hw _ (List.mem_of_getElem? (i := 152) rfl))) (mvT hZ (hw _ (List.mem_of_getElem? (i := 153) rfl))) (notFace_of_selects (args := #[]) (mvT hZ (hw _ (List.mem_of_getElem? (i := 155) rfl)))) (mvT hZ (hw _ (List.mem_of_getElem? (i := 155) rfl))) (mvT hZ (hw _ (List.mem_of_getElem? (i := 154) rfl))) (by decide) (backOf (W := 0) (rmG2 l Z a0 hw [] r y h0 n0 Z0 F_g) hZ (hw _ (List.mem_of_getElem? (i := 156) rfl)) (hw _ (List.mem_of_getElem? (i := 36) rfl)) (by decide) (by decide)) q4a q4c (g := (mkF m 61 #[.val (.ref a), .val (.ref r)] [(.ref r)])) rfl (by rw [hml]; rfl) (Steps.refl _) (argsL := []) (rest := []) (lenOf pd___Ljava_lang_String_ rfl) rfl (by show 2 * 0 + _ ≤ _; exact Nat.le_of_eq rfl) (hb hby d22_61) (fun _ _ => ⟨rfl, hh2, (by decide : 0 + 0 ≤ _), (by decide : 0 + 0 ≤ _)⟩)
  dsimp only [Pt.U, Pt.locs, Pt.cells, Pt.slots] at X4 l4 y4 z4 st4 hQ4
  subst l4 y4 z4
  obtain ⟨rfl, N4q, hh4⟩ := hQ4
  have N4 := Fr.app N2 N4q
  obtain ⟨fs, hr, hrun, hended, hW, hsame⟩ := X4.leave (v := some (.ref y)) (fun h => by rw [Bd.returns] at h; cases h)
  refine ⟨_, _, pre3 _ ?_, hrun, hended, _, _, rfl, ?_, ⟨_, rfl⟩, hW, hsame.mono (by decide) (by decide)⟩
  · skip
    refine st4.trans ?_
    show Steps p.tables e below (T4.setTop (mkF m 64 #[.val (.ref a), .val (.ref r)] [(.ref y)])) _
    refine XS.goto X4.here hx rfl (pc0 := 64) (pc' := 71) rfl (hb hby d22_64) (by decide) (by decide) ?_
    show Steps p.tables e below (T4.setTop (mkF m 71 #[.val (.ref a), .val (.ref r)] [(.ref y)])) _
    exact retOut X4 hx Bd.returns rfl (Or.inr (Or.inr (Or.inr (Or.inr ⟨rfl, rfl, rfl⟩)))) (hb hby d22_71) hr
  · show QIn2 Z a r y h0 n0 _ T4.heap _
    rw [hh4]
    exact ⟨rfl, N4, rfl⟩
theorem d22_67 : decode prog_28_method_6_code 67 = .ok (.aload_n 1, 1) := by decide +kernel
theorem d22_68 : decode prog_28_method_6_code 68 = .ok (.invokevirtual 63, 3) := by decide +kernel
theorem ef_rmIn3 (m : MethodId) (x0 : Addr) (x1 : Addr) : entryFrame m #[(.ref x0), (.ref x1)] 2 = mkF m 0 #[.val (.ref x0), .val (.ref x1)] [] := by first | (simp [entryFrame, mkF, argsToLocals, Value.category]; done) | rfl
def QIn3 (Z : State) (a : Addr) (r : Addr) (y : Addr) (h0 : Heap) (n0 : Nat) (v : Option Value) (h : Heap) (L : List Loc) : Prop := v = some (.ref y) ∧ Fr n0 L ∧ h = h0
set_option maxRecDepth 65536 in
set_option maxHeartbeats 40000000 in
theorem rmIn3 (l : Launch) (Z : State) (a0 : Array Value) (hw : ∀ d ∈ tables_1, d.before a0 Z = true) (ws : List Jvm.Cond) (a : Addr) (r : Addr) (y : Addr) (h0 : Heap) (n0 : Nat) (Z0 : n0 ≤ h0.size) (E_a : Exa Z h0 a "com/example/leasehold/leasehold/RecordedValue") (F_o : Fld Z h0 a "java/lang/Enum" "ordinal" "I" (.int (3 : Int32))) (E_r : Exa Z h0 r "com/example/leasehold/leasehold/LeaseRequest") (F_g : Fld Z h0 r "com/example/leasehold/leasehold/LeaseRequest" "intentVersion" "Ljava/lang/String;" (.ref y)) :
    MetFree l (⟨"com/example/leasehold/leasehold/RecordedValue", "in", "(Lcom/example/leasehold/leasehold/LeaseRequest;)Ljava/lang/String;"⟩ : MethodName) (head1 (Jvm.Cond.code (⟨"com/example/leasehold/leasehold/RecordedValue", "in", "(Lcom/example/leasehold/leasehold/LeaseRequest;)Ljava/lang/String;"⟩ : MethodName) prog_28_method_6_code 2 (some (.object "java/lang/String")) :: ws) ({ frames := 1, cells := 0, slots := 0, locals := 12 } : Room)) (fun ar UU => ar = #[(.ref a), (.ref r)] ∧ Z.Warmed39 UU.vm ∧ UU.heap = h0) (fun _ _ _ _ _ => True) (fun _ UU oo UU' => ∃ vv LL, oo = .returned vv ∧ QIn3 Z a r y h0 n0 vv UU'.heap LL ∧ FrameEnd UU oo UU' LL ({ frames := 1, cells := 0, slots := 0, locals := 12 } : Room).cells ({ frames := 1, cells := 0, slots := 0, locals := 12 } : Room).slots) := by
  refine MetFree.of_bodySF (plainFor_of_name pn_22) hisR ?_
  intro p e s m args below meth c s₁ Bd hml0 hP hK
  obtain ⟨rfl, hZ, hh⟩ := hP
  have hx := Bd.exec
  have hby := Bd.bytes
  have hml : c.maxLocals = 2 := hml0
  have hown : s.vm.findClass "com/example/leasehold/leasehold/RecordedValue" = some m.cls := findClass_of_methodNamed Bd.named
  have hnm := (name_of_methodNamed Bd.named Bd.method).1
  have X0 : Stand p l e ({ frames := 1, cells := 0, slots := 0, locals := 12 } : Room) s m #[(.ref a), (.ref r)] below meth c s₁ [] 0 0 := Stand.of_body Bd
  have e0 : s₁.heap = h0 := by rw [← hh, Bd.state]; rfl
  have N0 := Fr.nil n0
  have KC0 : Keep h0 h0 [] := Keep.refl h0 []
  have pre0 : ∀ tgt, Steps p.tables e below (s₁.setTop (mkF m 0 #[.val (.ref a), .val (.ref r)] [])) tgt → Steps p.tables e below (s₁.setTop (entryFrame m #[(.ref a), (.ref r)] 2)) tgt := fun tgt kk => castTop (ef_rmIn3 m (a) (r)) kk
  have pre1 : ∀ tgt, Steps p.tables e below (s₁.setTop (mkF m 1 #[.val (.ref a), .val (.ref r)] [(.ref a)])) tgt → Steps p.tables e below (s₁.setTop (entryFrame m #[(.ref a), (.ref r)] 2)) tgt := by
    intro tgt kk
    refine pre0 tgt ?_
    refine XS.aloadN X0.here hx rfl (hb hby d22_0) rfl rfl ?_
    show Steps p.tables e below (s₁.setTop (mkF m 1 #[.val (.ref a), .val (.ref r)] [(.ref a)])) _
    exact kk
  obtain ⟨cq2, kq2, q2a, q2b, q2c⟩ := isOf hZ e0 E_a
  obtain ⟨_, _, ⟨T2, L2, k2, n2⟩, -, X2, ⟨Lc2, hQ2, l2, y2, z2⟩, st2⟩ := X0.virtualBackUp hx (x := (⟨"com/example/leasehold/leasehold/RecordedValue", "ordinal", "()I"⟩ : MethodName)) (y := (⟨"java/lang/Enum", "ordinal", "()I"⟩ : MethodName)) (owner := "java/lang/Enum") hown (mvT hZ (hw _ (List.mem_of_getElem? (i := 129) rfl))) (mvT hZ (hw _ (List.mem_of_getElem? (i := 130) rfl))) (mvT hZ (hw _ (List.mem_of_getElem? (i := 131) rfl))) (by decide) (mvT hZ (hw _ (List.mem_of_getElem? (i := 133) rfl))) (mvT hZ (hw _ (List.mem_of_getElem? (i := 132) rfl))) (backOf (W := 0) (rmOrd l Z a0 hw [] a ((3 : Int32)) h0 n0 Z0 F_o) hZ (hw _ (List.mem_of_getElem? (i := 135) rfl)) (hw _ (List.mem_of_getElem? (i := 134) rfl)) (by decide) (by decide)) q2a q2c (g := (mkF m 1 #[.val (.ref a), .val (.ref r)] [(.ref a)])) rfl (by rw [hml]; rfl) (Steps.refl _) (argsL := []) (rest := []) (lenOf pd___I rfl) rfl (by show 2 * 0 + _ ≤ _; exact Nat.le_of_eq rfl) (hb hby d22_1) (fun _ _ => ⟨rfl, e0, (by decide : 0 + 0 ≤ _), (by decide : 0 + 0 ≤ _)⟩)
  dsimp only [Pt.U, Pt.locs, Pt.cells, Pt.slots] at X2 l2 y2 z2 st2 hQ2
  subst l2 y2 z2
  obtain ⟨rfl, N2q, hh2⟩ := hQ2
  have N2 := Fr.app N0 N2q
  have pre3 : ∀ tgt, Steps p.tables e below (T2.setTop (mkF m 68 #[.val (.ref a), .val (.ref r)] [(.ref r)])) tgt → Steps p.tables e below (s₁.setTop (entryFrame m #[(.ref a), (.ref r)] 2)) tgt := by
    intro tgt kk
    refine pre1 tgt ?_
    refine st2.trans ?_
    show Steps p.tables e below (T2.setTop (mkF m 4 #[.val (.ref a), .val (.ref r)] [(.int (3 : Int32))])) _
    refine XS.tswIn X2.here hx rfl (pc0 := 4) (pc' := 67) rfl (hb hby d22_4) rfl (by decide) (o := 63) rfl (by decide) (by decide) ?_
    show Steps p.tables e below (T2.setTop (mkF m 67 #[.val (.ref a), .val (.ref r)] [])) _
    refine XS.aloadN X2.here hx rfl (hb hby d22_67) rfl rfl ?_
    show Steps p.tables e below (T2.setTop (mkF m 68 #[.val (.ref a), .val (.ref r)] [(.ref r)])) _
    exact kk
  obtain ⟨cq4, kq4, q4a, q4b, q4c⟩ := isOf hZ hh2 E_r
  obtain ⟨_, _, ⟨T4, L4, k4, n4⟩, -, X4, ⟨Lc4, hQ4, l4, y4, z4⟩, st4⟩ := X2.virtualBack hx (y := (⟨"com/example/leasehold/leasehold/LeaseRequest", "intentVersion", "()Ljava/lang/String;"⟩ : MethodName)) (z := (⟨"com/example/leasehold/leasehold/LeaseRequest", "intentVersion", "()Ljava/lang/String;"⟩ : MethodName)) hown (mvT hZ (hw _ (List.mem_of_getElem? (i := 159) rfl))) (mvT hZ (hw _ (List.mem_of_getElem? (i := 160) rfl))) (notFace_of_selects (args := #[]) (mvT hZ (hw _ (List.mem_of_getElem? (i := 162) rfl)))) (mvT hZ (hw _ (List.mem_of_getElem? (i := 162) rfl))) (mvT hZ (hw _ (List.mem_of_getElem? (i := 161) rfl))) (by decide) (backOf (W := 0) (rmG3 l Z a0 hw [] r y h0 n0 Z0 F_g) hZ (hw _ (List.mem_of_getElem? (i := 163) rfl)) (hw _ (List.mem_of_getElem? (i := 36) rfl)) (by decide) (by decide)) q4a q4c (g := (mkF m 68 #[.val (.ref a), .val (.ref r)] [(.ref r)])) rfl (by rw [hml]; rfl) (Steps.refl _) (argsL := []) (rest := []) (lenOf pd___Ljava_lang_String_ rfl) rfl (by show 2 * 0 + _ ≤ _; exact Nat.le_of_eq rfl) (hb hby d22_68) (fun _ _ => ⟨rfl, hh2, (by decide : 0 + 0 ≤ _), (by decide : 0 + 0 ≤ _)⟩)
  dsimp only [Pt.U, Pt.locs, Pt.cells, Pt.slots] at X4 l4 y4 z4 st4 hQ4
  subst l4 y4 z4
  obtain ⟨rfl, N4q, hh4⟩ := hQ4
  have N4 := Fr.app N2 N4q
  obtain ⟨fs, hr, hrun, hended, hW, hsame⟩ := X4.leave (v := some (.ref y)) (fun h => by rw [Bd.returns] at h; cases h)
  refine ⟨_, _, pre3 _ ?_, hrun, hended, _, _, rfl, ?_, ⟨_, rfl⟩, hW, hsame.mono (by decide) (by decide)⟩
  · skip
    refine st4.trans ?_
    show Steps p.tables e below (T4.setTop (mkF m 71 #[.val (.ref a), .val (.ref r)] [(.ref y)])) _
    exact retOut X4 hx Bd.returns rfl (Or.inr (Or.inr (Or.inr (Or.inr ⟨rfl, rfl, rfl⟩)))) (hb hby d22_71) hr
  · show QIn3 Z a r y h0 n0 _ T4.heap _
    rw [hh4]
    exact ⟨rfl, N4, rfl⟩
theorem pn_0 : plainName "com/example/leasehold/leasehold/RecordedValueInPinLaw" = true := by first | (simp [plainName, overriddenIn]; done) | decide +kernel
theorem pd__IC_Ljava_lang_String_ : parseMethodDescriptor "(IC)Ljava/lang/String;" = some ⟨[.int, .char], some (.object "java/lang/String")⟩ := by decide +kernel
theorem pd__JJ_J : parseMethodDescriptor "(JJ)J" = some ⟨[.long, .long], some .long⟩ := by decide +kernel
theorem pd__Ljava_lang_String_Ljava_lang_String_Ljava_lang_String_Ljava_lang_String_Ljava_lang_String_JJ_V : parseMethodDescriptor "(Ljava/lang/String;Ljava/lang/String;Ljava/lang/String;Ljava/lang/String;Ljava/lang/String;JJ)V" = some ⟨[(.object "java/lang/String"), (.object "java/lang/String"), (.object "java/lang/String"), (.object "java/lang/String"), (.object "java/lang/String"), .long, .long], none⟩ := by decide +kernel
theorem pd__Lcom_example_leasehold_leasehold_LeaseRequest__Ljava_lang_String_ : parseMethodDescriptor "(Lcom/example/leasehold/leasehold/LeaseRequest;)Ljava/lang/String;" = some ⟨[(.object "com/example/leasehold/leasehold/LeaseRequest")], some (.object "java/lang/String")⟩ := by decide +kernel
theorem pd__Ljava_lang_Object__Z : parseMethodDescriptor "(Ljava/lang/Object;)Z" = some ⟨[(.object "java/lang/Object")], some .boolean⟩ := by decide +kernel
theorem ef_rm0 (m : MethodId) (x0 : Int32) (x1 : Int32) (x2 : Int32) (x3 : Int32) (x4 : Int64) (x5 : Int64) : entryFrame m #[(.int x0), (.int x1), (.int x2), (.int x3), (.long x4), (.long x5)] maxLocals = mkF m 0 #[.val (.int x0), .val (.int x1), .val (.int x2), .val (.int x3), .val (.long x4), .second, .val (.long x5), .second, .unset, .unset, .unset, .unset, .unset, .unset, .unset, .unset, .unset, .unset] [] := by first | (simp [entryFrame, mkF, argsToLocals, Value.category, maxLocals]; done) | rfl
def Q0 (Z : State) (p1 : Int32) (p2 : Int32) (p3 : Int32) (p4 : Int32) (p5 : Int64) (p6 : Int64) (z0 : Int32) (aA : Addr) (clA : Cell) (aI : Addr) (v0 : Addr) (v1 : Addr) (v2 : Addr) (v3 : Addr) (h0 : Heap) (n0 : Nat) (v : Option Value) (h : Heap) (L : List Loc) : Prop := v = some (.int (1 : Int32)) ∧ Fr n0 L
set_option maxRecDepth 65536 in
set_option maxHeartbeats 40000000 in
theorem rm0 (l : Launch) (Z : State) (a0 : Array Value) (hw : ∀ d ∈ tables_1, d.before a0 Z = true) (ws : List Jvm.Cond) (p1 : Int32) (p2 : Int32) (p3 : Int32) (p4 : Int32) (p5 : Int64) (p6 : Int64) (z0 : Int32) (aA : Addr) (clA : Cell) (aI : Addr) (v0 : Addr) (v1 : Addr) (v2 : Addr) (v3 : Addr) (h0 : Heap) (n0 : Nat) (Z0 : n0 ≤ h0.size) (S_CS : Sta Z h0 "java/lang/String" "COMPACT_STRINGS" "Z" (.int z0)) (S_A : Sta Z h0 "java/lang/CharacterDataLatin1" "A" "[I" (.ref aA)) (S_I : Sta Z h0 "java/lang/CharacterDataLatin1" "instance" "Ljava/lang/CharacterDataLatin1;" (.ref aI)) (E_I : Exa Z h0 aI "java/lang/CharacterDataLatin1") (Tb : Tab Z h0 aA clA .int (256 : Int32)) (h72 : ¬ (((atv clA (72 : Int32)) &&& (28672 : Int32)) = (16384 : Int32))) (hz : ¬ z0 = 0) (S_HOLDER : Sta Z h0 "com/example/leasehold/leasehold/RecordedValue" "HOLDER" "Lcom/example/leasehold/leasehold/RecordedValue;" (.ref v0)) (S_ACTOR : Sta Z h0 "com/example/leasehold/leasehold/RecordedValue" "ACTOR" "Lcom/example/leasehold/leasehold/RecordedValue;" (.ref v1)) (S_INTENT : Sta Z h0 "com/example/leasehold/leasehold/RecordedValue" "INTENT" "Lcom/example/leasehold/leasehold/RecordedValue;" (.ref v2)) (S_INTENT_VERSION : Sta Z h0 "com/example/leasehold/leasehold/RecordedValue" "INTENT_VERSION" "Lcom/example/leasehold/leasehold/RecordedValue;" (.ref v3)) (E_HOLDER : Exa Z h0 v0 "com/example/leasehold/leasehold/RecordedValue") (E_ACTOR : Exa Z h0 v1 "com/example/leasehold/leasehold/RecordedValue") (E_INTENT : Exa Z h0 v2 "com/example/leasehold/leasehold/RecordedValue") (E_INTENT_VERSION : Exa Z h0 v3 "com/example/leasehold/leasehold/RecordedValue") (F_HOLDER : Fld Z h0 v0 "java/lang/Enum" "ordinal" "I" (.int (0 : Int32))) (F_ACTOR : Fld Z h0 v1 "java/lang/Enum" "ordinal" "I" (.int (1 : Int32))) (F_INTENT : Fld Z h0 v2 "java/lang/Enum" "ordinal" "I" (.int (2 : Int32))) (F_INTENT_VERSION : Fld Z h0 v3 "java/lang/Enum" "ordinal" "I" (.int (3 : Int32))) :
    MetFree l x (head1 (Jvm.Cond.code x code maxLocals ret :: ws) room_1) (fun ar UU => ar = #[(.int p1), (.int p2), (.int p3), (.int p4), (.long p5), (.long p6)] ∧ Z.Warmed39 UU.vm ∧ UU.heap = h0) (fun _ _ _ _ _ => True) (fun _ UU oo UU' => ∃ vv LL, oo = .returned vv ∧ Q0 Z p1 p2 p3 p4 p5 p6 z0 aA clA aI v0 v1 v2 v3 h0 n0 vv UU'.heap LL ∧ ReturnedEndW UU oo UU' LL room_1.cells room_1.slots) := by
  refine MetFree.of_bodySF (plainFor_of_name pn_0) hisR ?_
  intro p e s m args below meth c s₁ Bd hml0 hP hK
  obtain ⟨rfl, hZ, hh⟩ := hP
  have hx := Bd.exec
  have hby := Bd.bytes
  have hml : c.maxLocals = 18 := hml0
  have hown : s.vm.findClass "com/example/leasehold/leasehold/RecordedValueInPinLaw" = some m.cls := findClass_of_methodNamed Bd.named
  have hnm := (name_of_methodNamed Bd.named Bd.method).1
  have X0 : Stand p l e room_1 s m #[(.int p1), (.int p2), (.int p3), (.int p4), (.long p5), (.long p6)] below meth c s₁ [] 0 0 := Stand.of_body Bd
  have e0 : s₁.heap = h0 := by rw [← hh, Bd.state]; rfl
  have N0 := Fr.nil n0
  have KC0 : Keep h0 h0 [] := Keep.refl h0 []
  have pre0 : ∀ tgt, Steps p.tables e below (s₁.setTop (mkF m 0 #[.val (.int p1), .val (.int p2), .val (.int p3), .val (.int p4), .val (.long p5), .second, .val (.long p6), .second, .unset, .unset, .unset, .unset, .unset, .unset, .unset, .unset, .unset, .unset] [])) tgt → Steps p.tables e below (s₁.setTop (entryFrame m #[(.int p1), (.int p2), (.int p3), (.int p4), (.long p5), (.long p6)] maxLocals)) tgt := fun tgt kk => castTop (ef_rm0 m (p1) (p2) (p3) (p4) (p5) (p6)) kk
  have pre1 : ∀ tgt, Steps p.tables e below (s₁.setTop (mkF m 3 #[.val (.int p1), .val (.int p2), .val (.int p3), .val (.int p4), .val (.long p5), .second, .val (.long p6), .second, .unset, .unset, .unset, .unset, .unset, .unset, .unset, .unset, .unset, .unset] [(.int (72 : Int32)), (.int p1)])) tgt → Steps p.tables e below (s₁.setTop (entryFrame m #[(.int p1), (.int p2), (.int p3), (.int p4), (.long p5), (.long p6)] maxLocals)) tgt := by
    intro tgt kk
    refine pre0 tgt ?_
    refine XS.iloadN X0.here hx rfl (hb hby at_0) rfl ?_
    show Steps p.tables e below (s₁.setTop (mkF m 1 #[.val (.int p1), .val (.int p2), .val (.int p3), .val (.int p4), .val (.long p5), .second, .val (.long p6), .second, .unset, .unset, .unset, .unset, .unset, .unset, .unset, .unset, .unset, .unset] [(.int p1)])) _
    refine XS.bipush X0.here hx rfl (hb hby at_1) ?_
    show Steps p.tables e below (s₁.setTop (mkF m 3 #[.val (.int p1), .val (.int p2), .val (.int p3), .val (.int p4), .val (.long p5), .second, .val (.long p6), .second, .unset, .unset, .unset, .unset, .unset, .unset, .unset, .unset, .unset, .unset] [(.int (72 : Int32)), (.int p1)])) _
    exact kk
  have lt2_0 := E_I.lt
  have lt2_1 := E_HOLDER.lt
  have lt2_2 := E_ACTOR.lt
  have lt2_3 := E_INTENT.lt
  have lt2_4 := E_INTENT_VERSION.lt
  obtain ⟨_, _, ⟨T3, L3, k3, n3⟩, -, X3, ⟨Lc3, hQ3, l3, y3, z3⟩, st3⟩ := Jvm.LawKit.callS X0 hx (y := (⟨"com/example/leasehold/leasehold/RecordedValueInPinLaw", "two", "(IC)Ljava/lang/String;"⟩ : MethodName)) hown (mvT hZ (hw _ (List.mem_of_getElem? (i := 0) rfl))) (mvT hZ (hw _ (List.mem_of_getElem? (i := 1) rfl))) (mvT hZ (hw _ (List.mem_of_getElem? (i := 2) rfl))) (mvT hZ (hw _ (List.mem_of_getElem? (i := 3) rfl))) (by decide) (backOf (W := 0) (rmTwo l Z a0 hw [] (p1) ((72 : Int32)) z0 h0 n0 Z0 S_CS hz (by decide)) hZ (hw _ (List.mem_of_getElem? (i := 3) rfl)) (hw _ (List.mem_of_getElem? (i := 2) rfl)) (by decide) (by decide)) (g := (mkF m 3 #[.val (.int p1), .val (.int p2), .val (.int p3), .val (.int p4), .val (.long p5), .second, .val (.long p6), .second, .unset, .unset, .unset, .unset, .unset, .unset, .unset, .unset, .unset, .unset] [(.int (72 : Int32)), (.int p1)])) rfl (by rw [hml]; rfl) (argsL := [(.int p1), (.int (72 : Int32))]) (rest := []) (lenOf pd__IC_Ljava_lang_String_ rfl) rfl (by show 2 * 0 + _ ≤ _; exact Nat.le_of_eq rfl) (hb hby at_3) (fun _ _ => ⟨rfl, e0, (by decide : 0 + 3 ≤ _), (by decide : 0 + 8 ≤ _)⟩)
  dsimp only [Pt.U, Pt.locs, Pt.cells, Pt.slots] at X3 l3 y3 z3 st3 hQ3
  subst l3 y3 z3
  obtain ⟨r3, t3, kk3, rfl, N3q, K3, gr3, sr3, gt3, st_3, Qe3, Qv3, Qc3, Qa3⟩ := hQ3
  have N3 := Fr.app N0 N3q
  have S_CS : Sta Z T3.heap "java/lang/String" "COMPACT_STRINGS" "Z" (.int z0) := own_sta_keep S_CS K3 all0
  have S_A : Sta Z T3.heap "java/lang/CharacterDataLatin1" "A" "[I" (.ref aA) := own_sta_keep S_A K3 all0
  have S_I : Sta Z T3.heap "java/lang/CharacterDataLatin1" "instance" "Ljava/lang/CharacterDataLatin1;" (.ref aI) := own_sta_keep S_I K3 all0
  have E_I : Exa Z T3.heap aI "java/lang/CharacterDataLatin1" := E_I.keep K3
  have S_HOLDER : Sta Z T3.heap "com/example/leasehold/leasehold/RecordedValue" "HOLDER" "Lcom/example/leasehold/leasehold/RecordedValue;" (.ref v0) := own_sta_keep S_HOLDER K3 all0
  have S_ACTOR : Sta Z T3.heap "com/example/leasehold/leasehold/RecordedValue" "ACTOR" "Lcom/example/leasehold/leasehold/RecordedValue;" (.ref v1) := own_sta_keep S_ACTOR K3 all0
  have S_INTENT : Sta Z T3.heap "com/example/leasehold/leasehold/RecordedValue" "INTENT" "Lcom/example/leasehold/leasehold/RecordedValue;" (.ref v2) := own_sta_keep S_INTENT K3 all0
  have S_INTENT_VERSION : Sta Z T3.heap "com/example/leasehold/leasehold/RecordedValue" "INTENT_VERSION" "Lcom/example/leasehold/leasehold/RecordedValue;" (.ref v3) := own_sta_keep S_INTENT_VERSION K3 all0
  have E_HOLDER : Exa Z T3.heap v0 "com/example/leasehold/leasehold/RecordedValue" := E_HOLDER.keep K3
  have E_ACTOR : Exa Z T3.heap v1 "com/example/leasehold/leasehold/RecordedValue" := E_ACTOR.keep K3
  have E_INTENT : Exa Z T3.heap v2 "com/example/leasehold/leasehold/RecordedValue" := E_INTENT.keep K3
  have E_INTENT_VERSION : Exa Z T3.heap v3 "com/example/leasehold/leasehold/RecordedValue" := E_INTENT_VERSION.keep K3
  have F_HOLDER : Fld Z T3.heap v0 "java/lang/Enum" "ordinal" "I" (.int (0 : Int32)) := F_HOLDER.keep K3 nin0
  have F_ACTOR : Fld Z T3.heap v1 "java/lang/Enum" "ordinal" "I" (.int (1 : Int32)) := F_ACTOR.keep K3 nin0
  have F_INTENT : Fld Z T3.heap v2 "java/lang/Enum" "ordinal" "I" (.int (2 : Int32)) := F_INTENT.keep K3 nin0
  have F_INTENT_VERSION : Fld Z T3.heap v3 "java/lang/Enum" "ordinal" "I" (.int (3 : Int32)) := F_INTENT_VERSION.keep K3 nin0
  have Zs4 : n0 ≤ T3.heap.size := Nat.le_trans Z0 K3.1
  have KC4 : Keep h0 T3.heap [] := KC0.trans K3 all0
  have ner3lt2_0 : aI ≠ r3 := Nat.ne_of_lt (Nat.lt_of_lt_of_le lt2_0 sr3)
  have net3lt2_0 : aI ≠ t3 := Nat.ne_of_lt (Nat.lt_of_lt_of_le lt2_0 st_3)
  have ner3lt2_1 : v0 ≠ r3 := Nat.ne_of_lt (Nat.lt_of_lt_of_le lt2_1 sr3)
  have net3lt2_1 : v0 ≠ t3 := Nat.ne_of_lt (Nat.lt_of_lt_of_le lt2_1 st_3)
  have ner3lt2_2 : v1 ≠ r3 := Nat.ne_of_lt (Nat.lt_of_lt_of_le lt2_2 sr3)
  have net3lt2_2 : v1 ≠ t3 := Nat.ne_of_lt (Nat.lt_of_lt_of_le lt2_2 st_3)
  have ner3lt2_3 : v2 ≠ r3 := Nat.ne_of_lt (Nat.lt_of_lt_of_le lt2_3 sr3)
  have net3lt2_3 : v2 ≠ t3 := Nat.ne_of_lt (Nat.lt_of_lt_of_le lt2_3 st_3)
  have ner3lt2_4 : v3 ≠ r3 := Nat.ne_of_lt (Nat.lt_of_lt_of_le lt2_4 sr3)
  have net3lt2_4 : v3 ≠ t3 := Nat.ne_of_lt (Nat.lt_of_lt_of_le lt2_4 st_3)
  have szr3 : h0.size ≤ r3 := Nat.le_trans KC0.1 sr3
  have E_r3 : Exa Z T3.heap r3 "java/lang/String" := Qe3
  have Fv_r3 : Fld Z T3.heap r3 "java/lang/String" "value" "[B" (.ref t3) := Qv3
  have Fc_r3 : Fld Z T3.heap r3 "java/lang/String" "coder" "B" (.int (0 : Int32)) := Qc3
  have V_r3 : Arv Z T3.heap t3 kk3 .byte (2 : Int32) ((([(nar .char (p1 &&& (255 : Int32)).toUInt32.toUInt16.toUInt32.toInt32), (72 : Int32)] : List Int32).map (fun c => c.toInt8.toInt32)).map Value.int) (.int (0 : Int32)) := Qa3
  have pre5 : ∀ tgt, Steps p.tables e below (T3.setTop (mkF m 11 #[.val (.int p1), .val (.int p2), .val (.int p3), .val (.int p4), .val (.long p5), .second, .val (.long p6), .second, .val (.ref r3), .unset, .unset, .unset, .unset, .unset, .unset, .unset, .unset, .unset] [(.int (65 : Int32)), (.int p2)])) tgt → Steps p.tables e below (s₁.setTop (entryFrame m #[(.int p1), (.int p2), (.int p3), (.int p4), (.long p5), (.long p6)] maxLocals)) tgt := by
    intro tgt kk
    refine pre1 tgt ?_
    refine st3 _ ?_
    show Steps p.tables e below (T3.setTop (mkF m 6 #[.val (.int p1), .val (.int p2), .val (.int p3), .val (.int p4), .val (.long p5), .second, .val (.long p6), .second, .unset, .unset, .unset, .unset, .unset, .unset, .unset, .unset, .unset, .unset] [(.ref r3)])) _
    refine XS.astore X3.here hx rfl (hb hby at_6) rfl rfl (l' := #[.val (.int p1), .val (.int p2), .val (.int p3), .val (.int p4), .val (.long p5), .second, .val (.long p6), .second, .val (.ref r3), .unset, .unset, .unset, .unset, .unset, .unset, .unset, .unset, .unset]) rfl ?_
    show Steps p.tables e below (T3.setTop (mkF m 8 #[.val (.int p1), .val (.int p2), .val (.int p3), .val (.int p4), .val (.long p5), .second, .val (.long p6), .second, .val (.ref r3), .unset, .unset, .unset, .unset, .unset, .unset, .unset, .unset, .unset] [])) _
    refine XS.iloadN X3.here hx rfl (hb hby at_8) rfl ?_
    show Steps p.tables e below (T3.setTop (mkF m 9 #[.val (.int p1), .val (.int p2), .val (.int p3), .val (.int p4), .val (.long p5), .second, .val (.long p6), .second, .val (.ref r3), .unset, .unset, .unset, .unset, .unset, .unset, .unset, .unset, .unset] [(.int p2)])) _
    refine XS.bipush X3.here hx rfl (hb hby at_9) ?_
    show Steps p.tables e below (T3.setTop (mkF m 11 #[.val (.int p1), .val (.int p2), .val (.int p3), .val (.int p4), .val (.long p5), .second, .val (.long p6), .second, .val (.ref r3), .unset, .unset, .unset, .unset, .unset, .unset, .unset, .unset, .unset] [(.int (65 : Int32)), (.int p2)])) _
    exact kk
  have lt6_0 := E_I.lt
  have lt6_1 := E_HOLDER.lt
  have lt6_2 := E_ACTOR.lt
  have lt6_3 := E_INTENT.lt
  have lt6_4 := E_INTENT_VERSION.lt
  have lt6_5 := E_r3.lt
  have lt6_6 := V_r3.lt
  obtain ⟨_, _, ⟨T7, L7, k7, n7⟩, -, X7, ⟨Lc7, hQ7, l7, y7, z7⟩, st7⟩ := Jvm.LawKit.callS X3 hx (y := (⟨"com/example/leasehold/leasehold/RecordedValueInPinLaw", "two", "(IC)Ljava/lang/String;"⟩ : MethodName)) hown (mvT hZ (hw _ (List.mem_of_getElem? (i := 0) rfl))) (mvT hZ (hw _ (List.mem_of_getElem? (i := 1) rfl))) (mvT hZ (hw _ (List.mem_of_getElem? (i := 2) rfl))) (mvT hZ (hw _ (List.mem_of_getElem? (i := 3) rfl))) (by decide) (backOf (W := 0) (rmTwo l Z a0 hw [] (p2) ((65 : Int32)) z0 T3.heap n0 Zs4 S_CS hz (by decide)) hZ (hw _ (List.mem_of_getElem? (i := 3) rfl)) (hw _ (List.mem_of_getElem? (i := 2) rfl)) (by decide) (by decide)) (g := (mkF m 11 #[.val (.int p1), .val (.int p2), .val (.int p3), .val (.int p4), .val (.long p5), .second, .val (.long p6), .second, .val (.ref r3), .unset, .unset, .unset, .unset, .unset, .unset, .unset, .unset, .unset] [(.int (65 : Int32)), (.int p2)])) rfl (by rw [hml]; rfl) (argsL := [(.int p2), (.int (65 : Int32))]) (rest := []) (lenOf pd__IC_Ljava_lang_String_ rfl) rfl (by show 2 * 0 + _ ≤ _; exact Nat.le_of_eq rfl) (hb hby at_11) (fun _ _ => ⟨rfl, rfl, (by decide : 3 + 3 ≤ _), (by decide : 8 + 8 ≤ _)⟩)
  dsimp only [Pt.U, Pt.locs, Pt.cells, Pt.slots] at X7 l7 y7 z7 st7 hQ7
  subst l7 y7 z7
  obtain ⟨r7, t7, kk7, rfl, N7q, K7, gr7, sr7, gt7, st_7, Qe7, Qv7, Qc7, Qa7⟩ := hQ7
  have N7 := Fr.app N3 N7q
  have S_CS : Sta Z T7.heap "java/lang/String" "COMPACT_STRINGS" "Z" (.int z0) := own_sta_keep S_CS K7 all0
  have S_A : Sta Z T7.heap "java/lang/CharacterDataLatin1" "A" "[I" (.ref aA) := own_sta_keep S_A K7 all0
  have S_I : Sta Z T7.heap "java/lang/CharacterDataLatin1" "instance" "Ljava/lang/CharacterDataLatin1;" (.ref aI) := own_sta_keep S_I K7 all0
  have E_I : Exa Z T7.heap aI "java/lang/CharacterDataLatin1" := E_I.keep K7
  have S_HOLDER : Sta Z T7.heap "com/example/leasehold/leasehold/RecordedValue" "HOLDER" "Lcom/example/leasehold/leasehold/RecordedValue;" (.ref v0) := own_sta_keep S_HOLDER K7 all0
  have S_ACTOR : Sta Z T7.heap "com/example/leasehold/leasehold/RecordedValue" "ACTOR" "Lcom/example/leasehold/leasehold/RecordedValue;" (.ref v1) := own_sta_keep S_ACTOR K7 all0
  have S_INTENT : Sta Z T7.heap "com/example/leasehold/leasehold/RecordedValue" "INTENT" "Lcom/example/leasehold/leasehold/RecordedValue;" (.ref v2) := own_sta_keep S_INTENT K7 all0
  have S_INTENT_VERSION : Sta Z T7.heap "com/example/leasehold/leasehold/RecordedValue" "INTENT_VERSION" "Lcom/example/leasehold/leasehold/RecordedValue;" (.ref v3) := own_sta_keep S_INTENT_VERSION K7 all0
  have E_HOLDER : Exa Z T7.heap v0 "com/example/leasehold/leasehold/RecordedValue" := E_HOLDER.keep K7
  have E_ACTOR : Exa Z T7.heap v1 "com/example/leasehold/leasehold/RecordedValue" := E_ACTOR.keep K7
  have E_INTENT : Exa Z T7.heap v2 "com/example/leasehold/leasehold/RecordedValue" := E_INTENT.keep K7
  have E_INTENT_VERSION : Exa Z T7.heap v3 "com/example/leasehold/leasehold/RecordedValue" := E_INTENT_VERSION.keep K7
  have F_HOLDER : Fld Z T7.heap v0 "java/lang/Enum" "ordinal" "I" (.int (0 : Int32)) := F_HOLDER.keep K7 nin0
  have F_ACTOR : Fld Z T7.heap v1 "java/lang/Enum" "ordinal" "I" (.int (1 : Int32)) := F_ACTOR.keep K7 nin0
  have F_INTENT : Fld Z T7.heap v2 "java/lang/Enum" "ordinal" "I" (.int (2 : Int32)) := F_INTENT.keep K7 nin0
  have F_INTENT_VERSION : Fld Z T7.heap v3 "java/lang/Enum" "ordinal" "I" (.int (3 : Int32)) := F_INTENT_VERSION.keep K7 nin0
  have E_r3 : Exa Z T7.heap r3 "java/lang/String" := E_r3.keep K7
  have Fv_r3 : Fld Z T7.heap r3 "java/lang/String" "value" "[B" (.ref t3) := Fv_r3.keep K7 nin0
  have Fc_r3 : Fld Z T7.heap r3 "java/lang/String" "coder" "B" (.int (0 : Int32)) := Fc_r3.keep K7 nin0
  have V_r3 : Arv Z T7.heap t3 kk3 .byte (2 : Int32) ((([(nar .char (p1 &&& (255 : Int32)).toUInt32.toUInt16.toUInt32.toInt32), (72 : Int32)] : List Int32).map (fun c => c.toInt8.toInt32)).map Value.int) (.int (0 : Int32)) := V_r3.keep K7 nin0
  have Zs8 : n0 ≤ T7.heap.size := Nat.le_trans Zs4 K7.1
  have KC8 : Keep h0 T7.heap [] := KC4.trans K7 all0
  have ner7lt6_0 : aI ≠ r7 := Nat.ne_of_lt (Nat.lt_of_lt_of_le lt6_0 sr7)
  have net7lt6_0 : aI ≠ t7 := Nat.ne_of_lt (Nat.lt_of_lt_of_le lt6_0 st_7)
  have ner7lt6_1 : v0 ≠ r7 := Nat.ne_of_lt (Nat.lt_of_lt_of_le lt6_1 sr7)
  have net7lt6_1 : v0 ≠ t7 := Nat.ne_of_lt (Nat.lt_of_lt_of_le lt6_1 st_7)
  have ner7lt6_2 : v1 ≠ r7 := Nat.ne_of_lt (Nat.lt_of_lt_of_le lt6_2 sr7)
  have net7lt6_2 : v1 ≠ t7 := Nat.ne_of_lt (Nat.lt_of_lt_of_le lt6_2 st_7)
  have ner7lt6_3 : v2 ≠ r7 := Nat.ne_of_lt (Nat.lt_of_lt_of_le lt6_3 sr7)
  have net7lt6_3 : v2 ≠ t7 := Nat.ne_of_lt (Nat.lt_of_lt_of_le lt6_3 st_7)
  have ner7lt6_4 : v3 ≠ r7 := Nat.ne_of_lt (Nat.lt_of_lt_of_le lt6_4 sr7)
  have net7lt6_4 : v3 ≠ t7 := Nat.ne_of_lt (Nat.lt_of_lt_of_le lt6_4 st_7)
  have ner7lt6_5 : r3 ≠ r7 := Nat.ne_of_lt (Nat.lt_of_lt_of_le lt6_5 sr7)
  have net7lt6_5 : r3 ≠ t7 := Nat.ne_of_lt (Nat.lt_of_lt_of_le lt6_5 st_7)
  have ner7lt6_6 : t3 ≠ r7 := Nat.ne_of_lt (Nat.lt_of_lt_of_le lt6_6 sr7)
  have net7lt6_6 : t3 ≠ t7 := Nat.ne_of_lt (Nat.lt_of_lt_of_le lt6_6 st_7)
  have szr7 : h0.size ≤ r7 := Nat.le_trans KC4.1 sr7
  have E_r7 : Exa Z T7.heap r7 "java/lang/String" := Qe7
  have Fv_r7 : Fld Z T7.heap r7 "java/lang/String" "value" "[B" (.ref t7) := Qv7
  have Fc_r7 : Fld Z T7.heap r7 "java/lang/String" "coder" "B" (.int (0 : Int32)) := Qc7
  have V_r7 : Arv Z T7.heap t7 kk7 .byte (2 : Int32) ((([(nar .char (p2 &&& (255 : Int32)).toUInt32.toUInt16.toUInt32.toInt32), (65 : Int32)] : List Int32).map (fun c => c.toInt8.toInt32)).map Value.int) (.int (0 : Int32)) := Qa7
  have pre9 : ∀ tgt, Steps p.tables e below (T7.setTop (mkF m 19 #[.val (.int p1), .val (.int p2), .val (.int p3), .val (.int p4), .val (.long p5), .second, .val (.long p6), .second, .val (.ref r3), .val (.ref r7), .unset, .unset, .unset, .unset, .unset, .unset, .unset, .unset] [(.int (73 : Int32)), (.int p3)])) tgt → Steps p.tables e below (s₁.setTop (entryFrame m #[(.int p1), (.int p2), (.int p3), (.int p4), (.long p5), (.long p6)] maxLocals)) tgt := by
    intro tgt kk
    refine pre5 tgt ?_
    refine st7 _ ?_
    show Steps p.tables e below (T7.setTop (mkF m 14 #[.val (.int p1), .val (.int p2), .val (.int p3), .val (.int p4), .val (.long p5), .second, .val (.long p6), .second, .val (.ref r3), .unset, .unset, .unset, .unset, .unset, .unset, .unset, .unset, .unset] [(.ref r7)])) _
    refine XS.astore X7.here hx rfl (hb hby at_14) rfl rfl (l' := #[.val (.int p1), .val (.int p2), .val (.int p3), .val (.int p4), .val (.long p5), .second, .val (.long p6), .second, .val (.ref r3), .val (.ref r7), .unset, .unset, .unset, .unset, .unset, .unset, .unset, .unset]) rfl ?_
    show Steps p.tables e below (T7.setTop (mkF m 16 #[.val (.int p1), .val (.int p2), .val (.int p3), .val (.int p4), .val (.long p5), .second, .val (.long p6), .second, .val (.ref r3), .val (.ref r7), .unset, .unset, .unset, .unset, .unset, .unset, .unset, .unset] [])) _
    refine XS.iloadN X7.here hx rfl (hb hby at_16) rfl ?_
    show Steps p.tables e below (T7.setTop (mkF m 17 #[.val (.int p1), .val (.int p2), .val (.int p3), .val (.int p4), .val (.long p5), .second, .val (.long p6), .second, .val (.ref r3), .val (.ref r7), .unset, .unset, .unset, .unset, .unset, .unset, .unset, .unset] [(.int p3)])) _
    refine XS.bipush X7.here hx rfl (hb hby at_17) ?_
    show Steps p.tables e below (T7.setTop (mkF m 19 #[.val (.int p1), .val (.int p2), .val (.int p3), .val (.int p4), .val (.long p5), .second, .val (.long p6), .second, .val (.ref r3), .val (.ref r7), .unset, .unset, .unset, .unset, .unset, .unset, .unset, .unset] [(.int (73 : Int32)), (.int p3)])) _
    exact kk
  have lt10_0 := E_I.lt
  have lt10_1 := E_HOLDER.lt
  have lt10_2 := E_ACTOR.lt
  have lt10_3 := E_INTENT.lt
  have lt10_4 := E_INTENT_VERSION.lt
  have lt10_5 := E_r3.lt
  have lt10_6 := V_r3.lt
  have lt10_7 := E_r7.lt
  have lt10_8 := V_r7.lt
  obtain ⟨_, _, ⟨T11, L11, k11, n11⟩, -, X11, ⟨Lc11, hQ11, l11, y11, z11⟩, st11⟩ := Jvm.LawKit.callS X7 hx (y := (⟨"com/example/leasehold/leasehold/RecordedValueInPinLaw", "two", "(IC)Ljava/lang/String;"⟩ : MethodName)) hown (mvT hZ (hw _ (List.mem_of_getElem? (i := 0) rfl))) (mvT hZ (hw _ (List.mem_of_getElem? (i := 1) rfl))) (mvT hZ (hw _ (List.mem_of_getElem? (i := 2) rfl))) (mvT hZ (hw _ (List.mem_of_getElem? (i := 3) rfl))) (by decide) (backOf (W := 0) (rmTwo l Z a0 hw [] (p3) ((73 : Int32)) z0 T7.heap n0 Zs8 S_CS hz (by decide)) hZ (hw _ (List.mem_of_getElem? (i := 3) rfl)) (hw _ (List.mem_of_getElem? (i := 2) rfl)) (by decide) (by decide)) (g := (mkF m 19 #[.val (.int p1), .val (.int p2), .val (.int p3), .val (.int p4), .val (.long p5), .second, .val (.long p6), .second, .val (.ref r3), .val (.ref r7), .unset, .unset, .unset, .unset, .unset, .unset, .unset, .unset] [(.int (73 : Int32)), (.int p3)])) rfl (by rw [hml]; rfl) (argsL := [(.int p3), (.int (73 : Int32))]) (rest := []) (lenOf pd__IC_Ljava_lang_String_ rfl) rfl (by show 2 * 0 + _ ≤ _; exact Nat.le_of_eq rfl) (hb hby at_19) (fun _ _ => ⟨rfl, rfl, (by decide : 6 + 3 ≤ _), (by decide : 16 + 8 ≤ _)⟩)
  dsimp only [Pt.U, Pt.locs, Pt.cells, Pt.slots] at X11 l11 y11 z11 st11 hQ11
  subst l11 y11 z11
  obtain ⟨r11, t11, kk11, rfl, N11q, K11, gr11, sr11, gt11, st_11, Qe11, Qv11, Qc11, Qa11⟩ := hQ11
  have N11 := Fr.app N7 N11q
  have S_CS : Sta Z T11.heap "java/lang/String" "COMPACT_STRINGS" "Z" (.int z0) := own_sta_keep S_CS K11 all0
  have S_A : Sta Z T11.heap "java/lang/CharacterDataLatin1" "A" "[I" (.ref aA) := own_sta_keep S_A K11 all0
  have S_I : Sta Z T11.heap "java/lang/CharacterDataLatin1" "instance" "Ljava/lang/CharacterDataLatin1;" (.ref aI) := own_sta_keep S_I K11 all0
  have E_I : Exa Z T11.heap aI "java/lang/CharacterDataLatin1" := E_I.keep K11
  have S_HOLDER : Sta Z T11.heap "com/example/leasehold/leasehold/RecordedValue" "HOLDER" "Lcom/example/leasehold/leasehold/RecordedValue;" (.ref v0) := own_sta_keep S_HOLDER K11 all0
  have S_ACTOR : Sta Z T11.heap "com/example/leasehold/leasehold/RecordedValue" "ACTOR" "Lcom/example/leasehold/leasehold/RecordedValue;" (.ref v1) := own_sta_keep S_ACTOR K11 all0
  have S_INTENT : Sta Z T11.heap "com/example/leasehold/leasehold/RecordedValue" "INTENT" "Lcom/example/leasehold/leasehold/RecordedValue;" (.ref v2) := own_sta_keep S_INTENT K11 all0
  have S_INTENT_VERSION : Sta Z T11.heap "com/example/leasehold/leasehold/RecordedValue" "INTENT_VERSION" "Lcom/example/leasehold/leasehold/RecordedValue;" (.ref v3) := own_sta_keep S_INTENT_VERSION K11 all0
  have E_HOLDER : Exa Z T11.heap v0 "com/example/leasehold/leasehold/RecordedValue" := E_HOLDER.keep K11
  have E_ACTOR : Exa Z T11.heap v1 "com/example/leasehold/leasehold/RecordedValue" := E_ACTOR.keep K11
  have E_INTENT : Exa Z T11.heap v2 "com/example/leasehold/leasehold/RecordedValue" := E_INTENT.keep K11
  have E_INTENT_VERSION : Exa Z T11.heap v3 "com/example/leasehold/leasehold/RecordedValue" := E_INTENT_VERSION.keep K11
  have F_HOLDER : Fld Z T11.heap v0 "java/lang/Enum" "ordinal" "I" (.int (0 : Int32)) := F_HOLDER.keep K11 nin0
  have F_ACTOR : Fld Z T11.heap v1 "java/lang/Enum" "ordinal" "I" (.int (1 : Int32)) := F_ACTOR.keep K11 nin0
  have F_INTENT : Fld Z T11.heap v2 "java/lang/Enum" "ordinal" "I" (.int (2 : Int32)) := F_INTENT.keep K11 nin0
  have F_INTENT_VERSION : Fld Z T11.heap v3 "java/lang/Enum" "ordinal" "I" (.int (3 : Int32)) := F_INTENT_VERSION.keep K11 nin0
  have E_r3 : Exa Z T11.heap r3 "java/lang/String" := E_r3.keep K11
  have Fv_r3 : Fld Z T11.heap r3 "java/lang/String" "value" "[B" (.ref t3) := Fv_r3.keep K11 nin0
  have Fc_r3 : Fld Z T11.heap r3 "java/lang/String" "coder" "B" (.int (0 : Int32)) := Fc_r3.keep K11 nin0
  have V_r3 : Arv Z T11.heap t3 kk3 .byte (2 : Int32) ((([(nar .char (p1 &&& (255 : Int32)).toUInt32.toUInt16.toUInt32.toInt32), (72 : Int32)] : List Int32).map (fun c => c.toInt8.toInt32)).map Value.int) (.int (0 : Int32)) := V_r3.keep K11 nin0
  have E_r7 : Exa Z T11.heap r7 "java/lang/String" := E_r7.keep K11
  have Fv_r7 : Fld Z T11.heap r7 "java/lang/String" "value" "[B" (.ref t7) := Fv_r7.keep K11 nin0
  have Fc_r7 : Fld Z T11.heap r7 "java/lang/String" "coder" "B" (.int (0 : Int32)) := Fc_r7.keep K11 nin0
  have V_r7 : Arv Z T11.heap t7 kk7 .byte (2 : Int32) ((([(nar .char (p2 &&& (255 : Int32)).toUInt32.toUInt16.toUInt32.toInt32), (65 : Int32)] : List Int32).map (fun c => c.toInt8.toInt32)).map Value.int) (.int (0 : Int32)) := V_r7.keep K11 nin0
  have Zs12 : n0 ≤ T11.heap.size := Nat.le_trans Zs8 K11.1
  have KC12 : Keep h0 T11.heap [] := KC8.trans K11 all0
  have ner11lt10_0 : aI ≠ r11 := Nat.ne_of_lt (Nat.lt_of_lt_of_le lt10_0 sr11)
  have net11lt10_0 : aI ≠ t11 := Nat.ne_of_lt (Nat.lt_of_lt_of_le lt10_0 st_11)
  have ner11lt10_1 : v0 ≠ r11 := Nat.ne_of_lt (Nat.lt_of_lt_of_le lt10_1 sr11)
  have net11lt10_1 : v0 ≠ t11 := Nat.ne_of_lt (Nat.lt_of_lt_of_le lt10_1 st_11)
  have ner11lt10_2 : v1 ≠ r11 := Nat.ne_of_lt (Nat.lt_of_lt_of_le lt10_2 sr11)
  have net11lt10_2 : v1 ≠ t11 := Nat.ne_of_lt (Nat.lt_of_lt_of_le lt10_2 st_11)
  have ner11lt10_3 : v2 ≠ r11 := Nat.ne_of_lt (Nat.lt_of_lt_of_le lt10_3 sr11)
  have net11lt10_3 : v2 ≠ t11 := Nat.ne_of_lt (Nat.lt_of_lt_of_le lt10_3 st_11)
  have ner11lt10_4 : v3 ≠ r11 := Nat.ne_of_lt (Nat.lt_of_lt_of_le lt10_4 sr11)
  have net11lt10_4 : v3 ≠ t11 := Nat.ne_of_lt (Nat.lt_of_lt_of_le lt10_4 st_11)
  have ner11lt10_5 : r3 ≠ r11 := Nat.ne_of_lt (Nat.lt_of_lt_of_le lt10_5 sr11)
  have net11lt10_5 : r3 ≠ t11 := Nat.ne_of_lt (Nat.lt_of_lt_of_le lt10_5 st_11)
  have ner11lt10_6 : t3 ≠ r11 := Nat.ne_of_lt (Nat.lt_of_lt_of_le lt10_6 sr11)
  have net11lt10_6 : t3 ≠ t11 := Nat.ne_of_lt (Nat.lt_of_lt_of_le lt10_6 st_11)
  have ner11lt10_7 : r7 ≠ r11 := Nat.ne_of_lt (Nat.lt_of_lt_of_le lt10_7 sr11)
  have net11lt10_7 : r7 ≠ t11 := Nat.ne_of_lt (Nat.lt_of_lt_of_le lt10_7 st_11)
  have ner11lt10_8 : t7 ≠ r11 := Nat.ne_of_lt (Nat.lt_of_lt_of_le lt10_8 sr11)
  have net11lt10_8 : t7 ≠ t11 := Nat.ne_of_lt (Nat.lt_of_lt_of_le lt10_8 st_11)
  have szr11 : h0.size ≤ r11 := Nat.le_trans KC8.1 sr11
  have E_r11 : Exa Z T11.heap r11 "java/lang/String" := Qe11
  have Fv_r11 : Fld Z T11.heap r11 "java/lang/String" "value" "[B" (.ref t11) := Qv11
  have Fc_r11 : Fld Z T11.heap r11 "java/lang/String" "coder" "B" (.int (0 : Int32)) := Qc11
  have V_r11 : Arv Z T11.heap t11 kk11 .byte (2 : Int32) ((([(nar .char (p3 &&& (255 : Int32)).toUInt32.toUInt16.toUInt32.toInt32), (73 : Int32)] : List Int32).map (fun c => c.toInt8.toInt32)).map Value.int) (.int (0 : Int32)) := Qa11
  have pre13 : ∀ tgt, Steps p.tables e below (T11.setTop (mkF m 27 #[.val (.int p1), .val (.int p2), .val (.int p3), .val (.int p4), .val (.long p5), .second, .val (.long p6), .second, .val (.ref r3), .val (.ref r7), .val (.ref r11), .unset, .unset, .unset, .unset, .unset, .unset, .unset] [(.int (86 : Int32)), (.int p4)])) tgt → Steps p.tables e below (s₁.setTop (entryFrame m #[(.int p1), (.int p2), (.int p3), (.int p4), (.long p5), (.long p6)] maxLocals)) tgt := by
    intro tgt kk
    refine pre9 tgt ?_
    refine st11 _ ?_
    show Steps p.tables e below (T11.setTop (mkF m 22 #[.val (.int p1), .val (.int p2), .val (.int p3), .val (.int p4), .val (.long p5), .second, .val (.long p6), .second, .val (.ref r3), .val (.ref r7), .unset, .unset, .unset, .unset, .unset, .unset, .unset, .unset] [(.ref r11)])) _
    refine XS.astore X11.here hx rfl (hb hby at_22) rfl rfl (l' := #[.val (.int p1), .val (.int p2), .val (.int p3), .val (.int p4), .val (.long p5), .second, .val (.long p6), .second, .val (.ref r3), .val (.ref r7), .val (.ref r11), .unset, .unset, .unset, .unset, .unset, .unset, .unset]) rfl ?_
    show Steps p.tables e below (T11.setTop (mkF m 24 #[.val (.int p1), .val (.int p2), .val (.int p3), .val (.int p4), .val (.long p5), .second, .val (.long p6), .second, .val (.ref r3), .val (.ref r7), .val (.ref r11), .unset, .unset, .unset, .unset, .unset, .unset, .unset] [])) _
    refine XS.iloadN X11.here hx rfl (hb hby at_24) rfl ?_
    show Steps p.tables e below (T11.setTop (mkF m 25 #[.val (.int p1), .val (.int p2), .val (.int p3), .val (.int p4), .val (.long p5), .second, .val (.long p6), .second, .val (.ref r3), .val (.ref r7), .val (.ref r11), .unset, .unset, .unset, .unset, .unset, .unset, .unset] [(.int p4)])) _
    refine XS.bipush X11.here hx rfl (hb hby at_25) ?_
    show Steps p.tables e below (T11.setTop (mkF m 27 #[.val (.int p1), .val (.int p2), .val (.int p3), .val (.int p4), .val (.long p5), .second, .val (.long p6), .second, .val (.ref r3), .val (.ref r7), .val (.ref r11), .unset, .unset, .unset, .unset, .unset, .unset, .unset] [(.int (86 : Int32)), (.int p4)])) _
    exact kk
  have lt14_0 := E_I.lt
  have lt14_1 := E_HOLDER.lt
  have lt14_2 := E_ACTOR.lt
  have lt14_3 := E_INTENT.lt
  have lt14_4 := E_INTENT_VERSION.lt
  have lt14_5 := E_r3.lt
  have lt14_6 := V_r3.lt
  have lt14_7 := E_r7.lt
  have lt14_8 := V_r7.lt
  have lt14_9 := E_r11.lt
  have lt14_10 := V_r11.lt
  obtain ⟨_, _, ⟨T15, L15, k15, n15⟩, -, X15, ⟨Lc15, hQ15, l15, y15, z15⟩, st15⟩ := Jvm.LawKit.callS X11 hx (y := (⟨"com/example/leasehold/leasehold/RecordedValueInPinLaw", "two", "(IC)Ljava/lang/String;"⟩ : MethodName)) hown (mvT hZ (hw _ (List.mem_of_getElem? (i := 0) rfl))) (mvT hZ (hw _ (List.mem_of_getElem? (i := 1) rfl))) (mvT hZ (hw _ (List.mem_of_getElem? (i := 2) rfl))) (mvT hZ (hw _ (List.mem_of_getElem? (i := 3) rfl))) (by decide) (backOf (W := 0) (rmTwo l Z a0 hw [] (p4) ((86 : Int32)) z0 T11.heap n0 Zs12 S_CS hz (by decide)) hZ (hw _ (List.mem_of_getElem? (i := 3) rfl)) (hw _ (List.mem_of_getElem? (i := 2) rfl)) (by decide) (by decide)) (g := (mkF m 27 #[.val (.int p1), .val (.int p2), .val (.int p3), .val (.int p4), .val (.long p5), .second, .val (.long p6), .second, .val (.ref r3), .val (.ref r7), .val (.ref r11), .unset, .unset, .unset, .unset, .unset, .unset, .unset] [(.int (86 : Int32)), (.int p4)])) rfl (by rw [hml]; rfl) (argsL := [(.int p4), (.int (86 : Int32))]) (rest := []) (lenOf pd__IC_Ljava_lang_String_ rfl) rfl (by show 2 * 0 + _ ≤ _; exact Nat.le_of_eq rfl) (hb hby at_27) (fun _ _ => ⟨rfl, rfl, (by decide : 9 + 3 ≤ _), (by decide : 24 + 8 ≤ _)⟩)
  dsimp only [Pt.U, Pt.locs, Pt.cells, Pt.slots] at X15 l15 y15 z15 st15 hQ15
  subst l15 y15 z15
  obtain ⟨r15, t15, kk15, rfl, N15q, K15, gr15, sr15, gt15, st_15, Qe15, Qv15, Qc15, Qa15⟩ := hQ15
  have N15 := Fr.app N11 N15q
  have S_CS : Sta Z T15.heap "java/lang/String" "COMPACT_STRINGS" "Z" (.int z0) := own_sta_keep S_CS K15 all0
  have S_A : Sta Z T15.heap "java/lang/CharacterDataLatin1" "A" "[I" (.ref aA) := own_sta_keep S_A K15 all0
  have S_I : Sta Z T15.heap "java/lang/CharacterDataLatin1" "instance" "Ljava/lang/CharacterDataLatin1;" (.ref aI) := own_sta_keep S_I K15 all0
  have E_I : Exa Z T15.heap aI "java/lang/CharacterDataLatin1" := E_I.keep K15
  have S_HOLDER : Sta Z T15.heap "com/example/leasehold/leasehold/RecordedValue" "HOLDER" "Lcom/example/leasehold/leasehold/RecordedValue;" (.ref v0) := own_sta_keep S_HOLDER K15 all0
  have S_ACTOR : Sta Z T15.heap "com/example/leasehold/leasehold/RecordedValue" "ACTOR" "Lcom/example/leasehold/leasehold/RecordedValue;" (.ref v1) := own_sta_keep S_ACTOR K15 all0
  have S_INTENT : Sta Z T15.heap "com/example/leasehold/leasehold/RecordedValue" "INTENT" "Lcom/example/leasehold/leasehold/RecordedValue;" (.ref v2) := own_sta_keep S_INTENT K15 all0
  have S_INTENT_VERSION : Sta Z T15.heap "com/example/leasehold/leasehold/RecordedValue" "INTENT_VERSION" "Lcom/example/leasehold/leasehold/RecordedValue;" (.ref v3) := own_sta_keep S_INTENT_VERSION K15 all0
  have E_HOLDER : Exa Z T15.heap v0 "com/example/leasehold/leasehold/RecordedValue" := E_HOLDER.keep K15
  have E_ACTOR : Exa Z T15.heap v1 "com/example/leasehold/leasehold/RecordedValue" := E_ACTOR.keep K15
  have E_INTENT : Exa Z T15.heap v2 "com/example/leasehold/leasehold/RecordedValue" := E_INTENT.keep K15
  have E_INTENT_VERSION : Exa Z T15.heap v3 "com/example/leasehold/leasehold/RecordedValue" := E_INTENT_VERSION.keep K15
  have F_HOLDER : Fld Z T15.heap v0 "java/lang/Enum" "ordinal" "I" (.int (0 : Int32)) := F_HOLDER.keep K15 nin0
  have F_ACTOR : Fld Z T15.heap v1 "java/lang/Enum" "ordinal" "I" (.int (1 : Int32)) := F_ACTOR.keep K15 nin0
  have F_INTENT : Fld Z T15.heap v2 "java/lang/Enum" "ordinal" "I" (.int (2 : Int32)) := F_INTENT.keep K15 nin0
  have F_INTENT_VERSION : Fld Z T15.heap v3 "java/lang/Enum" "ordinal" "I" (.int (3 : Int32)) := F_INTENT_VERSION.keep K15 nin0
  have E_r3 : Exa Z T15.heap r3 "java/lang/String" := E_r3.keep K15
  have Fv_r3 : Fld Z T15.heap r3 "java/lang/String" "value" "[B" (.ref t3) := Fv_r3.keep K15 nin0
  have Fc_r3 : Fld Z T15.heap r3 "java/lang/String" "coder" "B" (.int (0 : Int32)) := Fc_r3.keep K15 nin0
  have V_r3 : Arv Z T15.heap t3 kk3 .byte (2 : Int32) ((([(nar .char (p1 &&& (255 : Int32)).toUInt32.toUInt16.toUInt32.toInt32), (72 : Int32)] : List Int32).map (fun c => c.toInt8.toInt32)).map Value.int) (.int (0 : Int32)) := V_r3.keep K15 nin0
  have E_r7 : Exa Z T15.heap r7 "java/lang/String" := E_r7.keep K15
  have Fv_r7 : Fld Z T15.heap r7 "java/lang/String" "value" "[B" (.ref t7) := Fv_r7.keep K15 nin0
  have Fc_r7 : Fld Z T15.heap r7 "java/lang/String" "coder" "B" (.int (0 : Int32)) := Fc_r7.keep K15 nin0
  have V_r7 : Arv Z T15.heap t7 kk7 .byte (2 : Int32) ((([(nar .char (p2 &&& (255 : Int32)).toUInt32.toUInt16.toUInt32.toInt32), (65 : Int32)] : List Int32).map (fun c => c.toInt8.toInt32)).map Value.int) (.int (0 : Int32)) := V_r7.keep K15 nin0
  have E_r11 : Exa Z T15.heap r11 "java/lang/String" := E_r11.keep K15
  have Fv_r11 : Fld Z T15.heap r11 "java/lang/String" "value" "[B" (.ref t11) := Fv_r11.keep K15 nin0
  have Fc_r11 : Fld Z T15.heap r11 "java/lang/String" "coder" "B" (.int (0 : Int32)) := Fc_r11.keep K15 nin0
  have V_r11 : Arv Z T15.heap t11 kk11 .byte (2 : Int32) ((([(nar .char (p3 &&& (255 : Int32)).toUInt32.toUInt16.toUInt32.toInt32), (73 : Int32)] : List Int32).map (fun c => c.toInt8.toInt32)).map Value.int) (.int (0 : Int32)) := V_r11.keep K15 nin0
  have Zs16 : n0 ≤ T15.heap.size := Nat.le_trans Zs12 K15.1
  have KC16 : Keep h0 T15.heap [] := KC12.trans K15 all0
  have ner15lt14_0 : aI ≠ r15 := Nat.ne_of_lt (Nat.lt_of_lt_of_le lt14_0 sr15)
  have net15lt14_0 : aI ≠ t15 := Nat.ne_of_lt (Nat.lt_of_lt_of_le lt14_0 st_15)
  have ner15lt14_1 : v0 ≠ r15 := Nat.ne_of_lt (Nat.lt_of_lt_of_le lt14_1 sr15)
  have net15lt14_1 : v0 ≠ t15 := Nat.ne_of_lt (Nat.lt_of_lt_of_le lt14_1 st_15)
  have ner15lt14_2 : v1 ≠ r15 := Nat.ne_of_lt (Nat.lt_of_lt_of_le lt14_2 sr15)
  have net15lt14_2 : v1 ≠ t15 := Nat.ne_of_lt (Nat.lt_of_lt_of_le lt14_2 st_15)
  have ner15lt14_3 : v2 ≠ r15 := Nat.ne_of_lt (Nat.lt_of_lt_of_le lt14_3 sr15)
  have net15lt14_3 : v2 ≠ t15 := Nat.ne_of_lt (Nat.lt_of_lt_of_le lt14_3 st_15)
  have ner15lt14_4 : v3 ≠ r15 := Nat.ne_of_lt (Nat.lt_of_lt_of_le lt14_4 sr15)
  have net15lt14_4 : v3 ≠ t15 := Nat.ne_of_lt (Nat.lt_of_lt_of_le lt14_4 st_15)
  have ner15lt14_5 : r3 ≠ r15 := Nat.ne_of_lt (Nat.lt_of_lt_of_le lt14_5 sr15)
  have net15lt14_5 : r3 ≠ t15 := Nat.ne_of_lt (Nat.lt_of_lt_of_le lt14_5 st_15)
  have ner15lt14_6 : t3 ≠ r15 := Nat.ne_of_lt (Nat.lt_of_lt_of_le lt14_6 sr15)
  have net15lt14_6 : t3 ≠ t15 := Nat.ne_of_lt (Nat.lt_of_lt_of_le lt14_6 st_15)
  have ner15lt14_7 : r7 ≠ r15 := Nat.ne_of_lt (Nat.lt_of_lt_of_le lt14_7 sr15)
  have net15lt14_7 : r7 ≠ t15 := Nat.ne_of_lt (Nat.lt_of_lt_of_le lt14_7 st_15)
  have ner15lt14_8 : t7 ≠ r15 := Nat.ne_of_lt (Nat.lt_of_lt_of_le lt14_8 sr15)
  have net15lt14_8 : t7 ≠ t15 := Nat.ne_of_lt (Nat.lt_of_lt_of_le lt14_8 st_15)
  have ner15lt14_9 : r11 ≠ r15 := Nat.ne_of_lt (Nat.lt_of_lt_of_le lt14_9 sr15)
  have net15lt14_9 : r11 ≠ t15 := Nat.ne_of_lt (Nat.lt_of_lt_of_le lt14_9 st_15)
  have ner15lt14_10 : t11 ≠ r15 := Nat.ne_of_lt (Nat.lt_of_lt_of_le lt14_10 sr15)
  have net15lt14_10 : t11 ≠ t15 := Nat.ne_of_lt (Nat.lt_of_lt_of_le lt14_10 st_15)
  have szr15 : h0.size ≤ r15 := Nat.le_trans KC12.1 sr15
  have E_r15 : Exa Z T15.heap r15 "java/lang/String" := Qe15
  have Fv_r15 : Fld Z T15.heap r15 "java/lang/String" "value" "[B" (.ref t15) := Qv15
  have Fc_r15 : Fld Z T15.heap r15 "java/lang/String" "coder" "B" (.int (0 : Int32)) := Qc15
  have V_r15 : Arv Z T15.heap t15 kk15 .byte (2 : Int32) ((([(nar .char (p4 &&& (255 : Int32)).toUInt32.toUInt16.toUInt32.toInt32), (86 : Int32)] : List Int32).map (fun c => c.toInt8.toInt32)).map Value.int) (.int (0 : Int32)) := Qa15
  have pre17 : ∀ tgt, Steps p.tables e below (T15.setTop (mkF m 38 #[.val (.int p1), .val (.int p2), .val (.int p3), .val (.int p4), .val (.long p5), .second, .val (.long p6), .second, .val (.ref r3), .val (.ref r7), .val (.ref r11), .val (.ref r15), .unset, .unset, .unset, .unset, .unset, .unset] [(.int (83 : Int32)), (.int ((p1.toUInt32 >>> ((8 : Int32) &&& 31).toUInt32).toInt32))])) tgt → Steps p.tables e below (s₁.setTop (entryFrame m #[(.int p1), (.int p2), (.int p3), (.int p4), (.long p5), (.long p6)] maxLocals)) tgt := by
    intro tgt kk
    refine pre13 tgt ?_
    refine st15 _ ?_
    show Steps p.tables e below (T15.setTop (mkF m 30 #[.val (.int p1), .val (.int p2), .val (.int p3), .val (.int p4), .val (.long p5), .second, .val (.long p6), .second, .val (.ref r3), .val (.ref r7), .val (.ref r11), .unset, .unset, .unset, .unset, .unset, .unset, .unset] [(.ref r15)])) _
    refine XS.astore X15.here hx rfl (hb hby at_30) rfl rfl (l' := #[.val (.int p1), .val (.int p2), .val (.int p3), .val (.int p4), .val (.long p5), .second, .val (.long p6), .second, .val (.ref r3), .val (.ref r7), .val (.ref r11), .val (.ref r15), .unset, .unset, .unset, .unset, .unset, .unset]) rfl ?_
    show Steps p.tables e below (T15.setTop (mkF m 32 #[.val (.int p1), .val (.int p2), .val (.int p3), .val (.int p4), .val (.long p5), .second, .val (.long p6), .second, .val (.ref r3), .val (.ref r7), .val (.ref r11), .val (.ref r15), .unset, .unset, .unset, .unset, .unset, .unset] [])) _
    refine XS.iloadN X15.here hx rfl (hb hby at_32) rfl ?_
    show Steps p.tables e below (T15.setTop (mkF m 33 #[.val (.int p1), .val (.int p2), .val (.int p3), .val (.int p4), .val (.long p5), .second, .val (.long p6), .second, .val (.ref r3), .val (.ref r7), .val (.ref r11), .val (.ref r15), .unset, .unset, .unset, .unset, .unset, .unset] [(.int p1)])) _
    refine XS.bipush X15.here hx rfl (hb hby at_33) ?_
    show Steps p.tables e below (T15.setTop (mkF m 35 #[.val (.int p1), .val (.int p2), .val (.int p3), .val (.int p4), .val (.long p5), .second, .val (.long p6), .second, .val (.ref r3), .val (.ref r7), .val (.ref r11), .val (.ref r15), .unset, .unset, .unset, .unset, .unset, .unset] [(.int (8 : Int32)), (.int p1)])) _
    refine XS.iushr X15.here hx rfl (hb hby at_35) rfl ?_
    show Steps p.tables e below (T15.setTop (mkF m 36 #[.val (.int p1), .val (.int p2), .val (.int p3), .val (.int p4), .val (.long p5), .second, .val (.long p6), .second, .val (.ref r3), .val (.ref r7), .val (.ref r11), .val (.ref r15), .unset, .unset, .unset, .unset, .unset, .unset] [(.int ((p1.toUInt32 >>> ((8 : Int32) &&& 31).toUInt32).toInt32))])) _
    refine XS.bipush X15.here hx rfl (hb hby at_36) ?_
    show Steps p.tables e below (T15.setTop (mkF m 38 #[.val (.int p1), .val (.int p2), .val (.int p3), .val (.int p4), .val (.long p5), .second, .val (.long p6), .second, .val (.ref r3), .val (.ref r7), .val (.ref r11), .val (.ref r15), .unset, .unset, .unset, .unset, .unset, .unset] [(.int (83 : Int32)), (.int ((p1.toUInt32 >>> ((8 : Int32) &&& 31).toUInt32).toInt32))])) _
    exact kk
  have lt18_0 := E_I.lt
  have lt18_1 := E_HOLDER.lt
  have lt18_2 := E_ACTOR.lt
  have lt18_3 := E_INTENT.lt
  have lt18_4 := E_INTENT_VERSION.lt
  have lt18_5 := E_r3.lt
  have lt18_6 := V_r3.lt
  have lt18_7 := E_r7.lt
  have lt18_8 := V_r7.lt
  have lt18_9 := E_r11.lt
  have lt18_10 := V_r11.lt
  have lt18_11 := E_r15.lt
  have lt18_12 := V_r15.lt
  obtain ⟨_, _, ⟨T19, L19, k19, n19⟩, -, X19, ⟨Lc19, hQ19, l19, y19, z19⟩, st19⟩ := Jvm.LawKit.callS X15 hx (y := (⟨"com/example/leasehold/leasehold/RecordedValueInPinLaw", "two", "(IC)Ljava/lang/String;"⟩ : MethodName)) hown (mvT hZ (hw _ (List.mem_of_getElem? (i := 0) rfl))) (mvT hZ (hw _ (List.mem_of_getElem? (i := 1) rfl))) (mvT hZ (hw _ (List.mem_of_getElem? (i := 2) rfl))) (mvT hZ (hw _ (List.mem_of_getElem? (i := 3) rfl))) (by decide) (backOf (W := 0) (rmTwo l Z a0 hw [] (((p1.toUInt32 >>> ((8 : Int32) &&& 31).toUInt32).toInt32)) ((83 : Int32)) z0 T15.heap n0 Zs16 S_CS hz (by decide)) hZ (hw _ (List.mem_of_getElem? (i := 3) rfl)) (hw _ (List.mem_of_getElem? (i := 2) rfl)) (by decide) (by decide)) (g := (mkF m 38 #[.val (.int p1), .val (.int p2), .val (.int p3), .val (.int p4), .val (.long p5), .second, .val (.long p6), .second, .val (.ref r3), .val (.ref r7), .val (.ref r11), .val (.ref r15), .unset, .unset, .unset, .unset, .unset, .unset] [(.int (83 : Int32)), (.int ((p1.toUInt32 >>> ((8 : Int32) &&& 31).toUInt32).toInt32))])) rfl (by rw [hml]; rfl) (argsL := [(.int ((p1.toUInt32 >>> ((8 : Int32) &&& 31).toUInt32).toInt32)), (.int (83 : Int32))]) (rest := []) (lenOf pd__IC_Ljava_lang_String_ rfl) rfl (by show 2 * 0 + _ ≤ _; exact Nat.le_of_eq rfl) (hb hby at_38) (fun _ _ => ⟨rfl, rfl, (by decide : 12 + 3 ≤ _), (by decide : 32 + 8 ≤ _)⟩)
  dsimp only [Pt.U, Pt.locs, Pt.cells, Pt.slots] at X19 l19 y19 z19 st19 hQ19
  subst l19 y19 z19
  obtain ⟨r19, t19, kk19, rfl, N19q, K19, gr19, sr19, gt19, st_19, Qe19, Qv19, Qc19, Qa19⟩ := hQ19
  have N19 := Fr.app N15 N19q
  have S_CS : Sta Z T19.heap "java/lang/String" "COMPACT_STRINGS" "Z" (.int z0) := own_sta_keep S_CS K19 all0
  have S_A : Sta Z T19.heap "java/lang/CharacterDataLatin1" "A" "[I" (.ref aA) := own_sta_keep S_A K19 all0
  have S_I : Sta Z T19.heap "java/lang/CharacterDataLatin1" "instance" "Ljava/lang/CharacterDataLatin1;" (.ref aI) := own_sta_keep S_I K19 all0
  have E_I : Exa Z T19.heap aI "java/lang/CharacterDataLatin1" := E_I.keep K19
  have S_HOLDER : Sta Z T19.heap "com/example/leasehold/leasehold/RecordedValue" "HOLDER" "Lcom/example/leasehold/leasehold/RecordedValue;" (.ref v0) := own_sta_keep S_HOLDER K19 all0
  have S_ACTOR : Sta Z T19.heap "com/example/leasehold/leasehold/RecordedValue" "ACTOR" "Lcom/example/leasehold/leasehold/RecordedValue;" (.ref v1) := own_sta_keep S_ACTOR K19 all0
  have S_INTENT : Sta Z T19.heap "com/example/leasehold/leasehold/RecordedValue" "INTENT" "Lcom/example/leasehold/leasehold/RecordedValue;" (.ref v2) := own_sta_keep S_INTENT K19 all0
  have S_INTENT_VERSION : Sta Z T19.heap "com/example/leasehold/leasehold/RecordedValue" "INTENT_VERSION" "Lcom/example/leasehold/leasehold/RecordedValue;" (.ref v3) := own_sta_keep S_INTENT_VERSION K19 all0
  have E_HOLDER : Exa Z T19.heap v0 "com/example/leasehold/leasehold/RecordedValue" := E_HOLDER.keep K19
  have E_ACTOR : Exa Z T19.heap v1 "com/example/leasehold/leasehold/RecordedValue" := E_ACTOR.keep K19
  have E_INTENT : Exa Z T19.heap v2 "com/example/leasehold/leasehold/RecordedValue" := E_INTENT.keep K19
  have E_INTENT_VERSION : Exa Z T19.heap v3 "com/example/leasehold/leasehold/RecordedValue" := E_INTENT_VERSION.keep K19
  have F_HOLDER : Fld Z T19.heap v0 "java/lang/Enum" "ordinal" "I" (.int (0 : Int32)) := F_HOLDER.keep K19 nin0
  have F_ACTOR : Fld Z T19.heap v1 "java/lang/Enum" "ordinal" "I" (.int (1 : Int32)) := F_ACTOR.keep K19 nin0
  have F_INTENT : Fld Z T19.heap v2 "java/lang/Enum" "ordinal" "I" (.int (2 : Int32)) := F_INTENT.keep K19 nin0
  have F_INTENT_VERSION : Fld Z T19.heap v3 "java/lang/Enum" "ordinal" "I" (.int (3 : Int32)) := F_INTENT_VERSION.keep K19 nin0
  have E_r3 : Exa Z T19.heap r3 "java/lang/String" := E_r3.keep K19
  have Fv_r3 : Fld Z T19.heap r3 "java/lang/String" "value" "[B" (.ref t3) := Fv_r3.keep K19 nin0
  have Fc_r3 : Fld Z T19.heap r3 "java/lang/String" "coder" "B" (.int (0 : Int32)) := Fc_r3.keep K19 nin0
  have V_r3 : Arv Z T19.heap t3 kk3 .byte (2 : Int32) ((([(nar .char (p1 &&& (255 : Int32)).toUInt32.toUInt16.toUInt32.toInt32), (72 : Int32)] : List Int32).map (fun c => c.toInt8.toInt32)).map Value.int) (.int (0 : Int32)) := V_r3.keep K19 nin0
  have E_r7 : Exa Z T19.heap r7 "java/lang/String" := E_r7.keep K19
  have Fv_r7 : Fld Z T19.heap r7 "java/lang/String" "value" "[B" (.ref t7) := Fv_r7.keep K19 nin0
  have Fc_r7 : Fld Z T19.heap r7 "java/lang/String" "coder" "B" (.int (0 : Int32)) := Fc_r7.keep K19 nin0
  have V_r7 : Arv Z T19.heap t7 kk7 .byte (2 : Int32) ((([(nar .char (p2 &&& (255 : Int32)).toUInt32.toUInt16.toUInt32.toInt32), (65 : Int32)] : List Int32).map (fun c => c.toInt8.toInt32)).map Value.int) (.int (0 : Int32)) := V_r7.keep K19 nin0
  have E_r11 : Exa Z T19.heap r11 "java/lang/String" := E_r11.keep K19
  have Fv_r11 : Fld Z T19.heap r11 "java/lang/String" "value" "[B" (.ref t11) := Fv_r11.keep K19 nin0
  have Fc_r11 : Fld Z T19.heap r11 "java/lang/String" "coder" "B" (.int (0 : Int32)) := Fc_r11.keep K19 nin0
  have V_r11 : Arv Z T19.heap t11 kk11 .byte (2 : Int32) ((([(nar .char (p3 &&& (255 : Int32)).toUInt32.toUInt16.toUInt32.toInt32), (73 : Int32)] : List Int32).map (fun c => c.toInt8.toInt32)).map Value.int) (.int (0 : Int32)) := V_r11.keep K19 nin0
  have E_r15 : Exa Z T19.heap r15 "java/lang/String" := E_r15.keep K19
  have Fv_r15 : Fld Z T19.heap r15 "java/lang/String" "value" "[B" (.ref t15) := Fv_r15.keep K19 nin0
  have Fc_r15 : Fld Z T19.heap r15 "java/lang/String" "coder" "B" (.int (0 : Int32)) := Fc_r15.keep K19 nin0
  have V_r15 : Arv Z T19.heap t15 kk15 .byte (2 : Int32) ((([(nar .char (p4 &&& (255 : Int32)).toUInt32.toUInt16.toUInt32.toInt32), (86 : Int32)] : List Int32).map (fun c => c.toInt8.toInt32)).map Value.int) (.int (0 : Int32)) := V_r15.keep K19 nin0
  have Zs20 : n0 ≤ T19.heap.size := Nat.le_trans Zs16 K19.1
  have KC20 : Keep h0 T19.heap [] := KC16.trans K19 all0
  have ner19lt18_0 : aI ≠ r19 := Nat.ne_of_lt (Nat.lt_of_lt_of_le lt18_0 sr19)
  have net19lt18_0 : aI ≠ t19 := Nat.ne_of_lt (Nat.lt_of_lt_of_le lt18_0 st_19)
  have ner19lt18_1 : v0 ≠ r19 := Nat.ne_of_lt (Nat.lt_of_lt_of_le lt18_1 sr19)
  have net19lt18_1 : v0 ≠ t19 := Nat.ne_of_lt (Nat.lt_of_lt_of_le lt18_1 st_19)
  have ner19lt18_2 : v1 ≠ r19 := Nat.ne_of_lt (Nat.lt_of_lt_of_le lt18_2 sr19)
  have net19lt18_2 : v1 ≠ t19 := Nat.ne_of_lt (Nat.lt_of_lt_of_le lt18_2 st_19)
  have ner19lt18_3 : v2 ≠ r19 := Nat.ne_of_lt (Nat.lt_of_lt_of_le lt18_3 sr19)
  have net19lt18_3 : v2 ≠ t19 := Nat.ne_of_lt (Nat.lt_of_lt_of_le lt18_3 st_19)
  have ner19lt18_4 : v3 ≠ r19 := Nat.ne_of_lt (Nat.lt_of_lt_of_le lt18_4 sr19)
  have net19lt18_4 : v3 ≠ t19 := Nat.ne_of_lt (Nat.lt_of_lt_of_le lt18_4 st_19)
  have ner19lt18_5 : r3 ≠ r19 := Nat.ne_of_lt (Nat.lt_of_lt_of_le lt18_5 sr19)
  have net19lt18_5 : r3 ≠ t19 := Nat.ne_of_lt (Nat.lt_of_lt_of_le lt18_5 st_19)
  have ner19lt18_6 : t3 ≠ r19 := Nat.ne_of_lt (Nat.lt_of_lt_of_le lt18_6 sr19)
  have net19lt18_6 : t3 ≠ t19 := Nat.ne_of_lt (Nat.lt_of_lt_of_le lt18_6 st_19)
  have ner19lt18_7 : r7 ≠ r19 := Nat.ne_of_lt (Nat.lt_of_lt_of_le lt18_7 sr19)
  have net19lt18_7 : r7 ≠ t19 := Nat.ne_of_lt (Nat.lt_of_lt_of_le lt18_7 st_19)
  have ner19lt18_8 : t7 ≠ r19 := Nat.ne_of_lt (Nat.lt_of_lt_of_le lt18_8 sr19)
  have net19lt18_8 : t7 ≠ t19 := Nat.ne_of_lt (Nat.lt_of_lt_of_le lt18_8 st_19)
  have ner19lt18_9 : r11 ≠ r19 := Nat.ne_of_lt (Nat.lt_of_lt_of_le lt18_9 sr19)
  have net19lt18_9 : r11 ≠ t19 := Nat.ne_of_lt (Nat.lt_of_lt_of_le lt18_9 st_19)
  have ner19lt18_10 : t11 ≠ r19 := Nat.ne_of_lt (Nat.lt_of_lt_of_le lt18_10 sr19)
  have net19lt18_10 : t11 ≠ t19 := Nat.ne_of_lt (Nat.lt_of_lt_of_le lt18_10 st_19)
  have ner19lt18_11 : r15 ≠ r19 := Nat.ne_of_lt (Nat.lt_of_lt_of_le lt18_11 sr19)
  have net19lt18_11 : r15 ≠ t19 := Nat.ne_of_lt (Nat.lt_of_lt_of_le lt18_11 st_19)
  have ner19lt18_12 : t15 ≠ r19 := Nat.ne_of_lt (Nat.lt_of_lt_of_le lt18_12 sr19)
  have net19lt18_12 : t15 ≠ t19 := Nat.ne_of_lt (Nat.lt_of_lt_of_le lt18_12 st_19)
  have szr19 : h0.size ≤ r19 := Nat.le_trans KC16.1 sr19
  have E_r19 : Exa Z T19.heap r19 "java/lang/String" := Qe19
  have Fv_r19 : Fld Z T19.heap r19 "java/lang/String" "value" "[B" (.ref t19) := Qv19
  have Fc_r19 : Fld Z T19.heap r19 "java/lang/String" "coder" "B" (.int (0 : Int32)) := Qc19
  have V_r19 : Arv Z T19.heap t19 kk19 .byte (2 : Int32) ((([(nar .char (((p1.toUInt32 >>> ((8 : Int32) &&& 31).toUInt32).toInt32) &&& (255 : Int32)).toUInt32.toUInt16.toUInt32.toInt32), (83 : Int32)] : List Int32).map (fun c => c.toInt8.toInt32)).map Value.int) (.int (0 : Int32)) := Qa19
  have pre21 : ∀ tgt, Steps p.tables e below (T19.setTop (mkF m 43 #[.val (.int p1), .val (.int p2), .val (.int p3), .val (.int p4), .val (.long p5), .second, .val (.long p6), .second, .val (.ref r3), .val (.ref r7), .val (.ref r11), .val (.ref r15), .val (.ref r19), .unset, .unset, .unset, .unset, .unset] [])) tgt → Steps p.tables e below (s₁.setTop (entryFrame m #[(.int p1), (.int p2), (.int p3), (.int p4), (.long p5), (.long p6)] maxLocals)) tgt := by
    intro tgt kk
    refine pre17 tgt ?_
    refine st19 _ ?_
    show Steps p.tables e below (T19.setTop (mkF m 41 #[.val (.int p1), .val (.int p2), .val (.int p3), .val (.int p4), .val (.long p5), .second, .val (.long p6), .second, .val (.ref r3), .val (.ref r7), .val (.ref r11), .val (.ref r15), .unset, .unset, .unset, .unset, .unset, .unset] [(.ref r19)])) _
    refine XS.astore X19.here hx rfl (hb hby at_41) rfl rfl (l' := #[.val (.int p1), .val (.int p2), .val (.int p3), .val (.int p4), .val (.long p5), .second, .val (.long p6), .second, .val (.ref r3), .val (.ref r7), .val (.ref r11), .val (.ref r15), .val (.ref r19), .unset, .unset, .unset, .unset, .unset]) rfl ?_
    show Steps p.tables e below (T19.setTop (mkF m 43 #[.val (.int p1), .val (.int p2), .val (.int p3), .val (.int p4), .val (.long p5), .second, .val (.long p6), .second, .val (.ref r3), .val (.ref r7), .val (.ref r11), .val (.ref r15), .val (.ref r19), .unset, .unset, .unset, .unset, .unset] [])) _
    exact kk
  obtain ⟨T22, h22, X22, e22, E22, A22, D22, -, st22⟩ := newO X19 hx hZ hown (hw _ (List.mem_of_getElem? (i := 34) rfl)) (hw _ (List.mem_of_getElem? (i := 35) rfl)) (hw _ (List.mem_of_getElem? (i := 36) rfl)) rfl (g := (mkF m 43 #[.val (.int p1), .val (.int p2), .val (.int p3), .val (.int p4), .val (.long p5), .second, .val (.long p6), .second, .val (.ref r3), .val (.ref r7), .val (.ref r11), .val (.ref r15), .val (.ref r19), .unset, .unset, .unset, .unset, .unset] [])) rfl (hb hby at_43) (by decide) (by decide)
  obtain ⟨b22, g22⟩ : ∃ z, z = T19.heap.size := ⟨_, rfl⟩
  rw [← g22] at A22 D22 st22
  have ne23 : aI ≠ b22 := Nat.ne_of_lt (Nat.lt_of_lt_of_le E_I.lt (Nat.le_of_eq g22.symm))
  have ne24 : v0 ≠ b22 := Nat.ne_of_lt (Nat.lt_of_lt_of_le E_HOLDER.lt (Nat.le_of_eq g22.symm))
  have ne25 : v1 ≠ b22 := Nat.ne_of_lt (Nat.lt_of_lt_of_le E_ACTOR.lt (Nat.le_of_eq g22.symm))
  have ne26 : v2 ≠ b22 := Nat.ne_of_lt (Nat.lt_of_lt_of_le E_INTENT.lt (Nat.le_of_eq g22.symm))
  have ne27 : v3 ≠ b22 := Nat.ne_of_lt (Nat.lt_of_lt_of_le E_INTENT_VERSION.lt (Nat.le_of_eq g22.symm))
  have ne28 : r3 ≠ b22 := Nat.ne_of_lt (Nat.lt_of_lt_of_le E_r3.lt (Nat.le_of_eq g22.symm))
  have ne29 : t3 ≠ b22 := Nat.ne_of_lt (Nat.lt_of_lt_of_le V_r3.lt (Nat.le_of_eq g22.symm))
  have ne30 : r7 ≠ b22 := Nat.ne_of_lt (Nat.lt_of_lt_of_le E_r7.lt (Nat.le_of_eq g22.symm))
  have ne31 : t7 ≠ b22 := Nat.ne_of_lt (Nat.lt_of_lt_of_le V_r7.lt (Nat.le_of_eq g22.symm))
  have ne32 : r11 ≠ b22 := Nat.ne_of_lt (Nat.lt_of_lt_of_le E_r11.lt (Nat.le_of_eq g22.symm))
  have ne33 : t11 ≠ b22 := Nat.ne_of_lt (Nat.lt_of_lt_of_le V_r11.lt (Nat.le_of_eq g22.symm))
  have ne34 : r15 ≠ b22 := Nat.ne_of_lt (Nat.lt_of_lt_of_le E_r15.lt (Nat.le_of_eq g22.symm))
  have ne35 : t15 ≠ b22 := Nat.ne_of_lt (Nat.lt_of_lt_of_le V_r15.lt (Nat.le_of_eq g22.symm))
  have ne36 : r19 ≠ b22 := Nat.ne_of_lt (Nat.lt_of_lt_of_le E_r19.lt (Nat.le_of_eq g22.symm))
  have ne37 : t19 ≠ b22 := Nat.ne_of_lt (Nat.lt_of_lt_of_le V_r19.lt (Nat.le_of_eq g22.symm))
  have gn38 : n0 ≤ b22 := Nat.le_trans Zs20 (Nat.le_of_eq g22.symm)
  have sz38 : h0.size ≤ b22 := Nat.le_trans KC20.1 (Nat.le_of_eq g22.symm)
  have S_CS : Sta Z h22 "java/lang/String" "COMPACT_STRINGS" "Z" (.int z0) := S_CS.ext E22
  have S_A : Sta Z h22 "java/lang/CharacterDataLatin1" "A" "[I" (.ref aA) := S_A.ext E22
  have S_I : Sta Z h22 "java/lang/CharacterDataLatin1" "instance" "Ljava/lang/CharacterDataLatin1;" (.ref aI) := S_I.ext E22
  have E_I : Exa Z h22 aI "java/lang/CharacterDataLatin1" := E_I.ext E22
  have S_HOLDER : Sta Z h22 "com/example/leasehold/leasehold/RecordedValue" "HOLDER" "Lcom/example/leasehold/leasehold/RecordedValue;" (.ref v0) := S_HOLDER.ext E22
  have S_ACTOR : Sta Z h22 "com/example/leasehold/leasehold/RecordedValue" "ACTOR" "Lcom/example/leasehold/leasehold/RecordedValue;" (.ref v1) := S_ACTOR.ext E22
  have S_INTENT : Sta Z h22 "com/example/leasehold/leasehold/RecordedValue" "INTENT" "Lcom/example/leasehold/leasehold/RecordedValue;" (.ref v2) := S_INTENT.ext E22
  have S_INTENT_VERSION : Sta Z h22 "com/example/leasehold/leasehold/RecordedValue" "INTENT_VERSION" "Lcom/example/leasehold/leasehold/RecordedValue;" (.ref v3) := S_INTENT_VERSION.ext E22
  have E_HOLDER : Exa Z h22 v0 "com/example/leasehold/leasehold/RecordedValue" := E_HOLDER.ext E22
  have E_ACTOR : Exa Z h22 v1 "com/example/leasehold/leasehold/RecordedValue" := E_ACTOR.ext E22
  have E_INTENT : Exa Z h22 v2 "com/example/leasehold/leasehold/RecordedValue" := E_INTENT.ext E22
  have E_INTENT_VERSION : Exa Z h22 v3 "com/example/leasehold/leasehold/RecordedValue" := E_INTENT_VERSION.ext E22
  have F_HOLDER : Fld Z h22 v0 "java/lang/Enum" "ordinal" "I" (.int (0 : Int32)) := F_HOLDER.ext E22
  have F_ACTOR : Fld Z h22 v1 "java/lang/Enum" "ordinal" "I" (.int (1 : Int32)) := F_ACTOR.ext E22
  have F_INTENT : Fld Z h22 v2 "java/lang/Enum" "ordinal" "I" (.int (2 : Int32)) := F_INTENT.ext E22
  have F_INTENT_VERSION : Fld Z h22 v3 "java/lang/Enum" "ordinal" "I" (.int (3 : Int32)) := F_INTENT_VERSION.ext E22
  have E_r3 : Exa Z h22 r3 "java/lang/String" := E_r3.ext E22
  have Fv_r3 : Fld Z h22 r3 "java/lang/String" "value" "[B" (.ref t3) := Fv_r3.ext E22
  have Fc_r3 : Fld Z h22 r3 "java/lang/String" "coder" "B" (.int (0 : Int32)) := Fc_r3.ext E22
  have V_r3 : Arv Z h22 t3 kk3 .byte (2 : Int32) ((([(nar .char (p1 &&& (255 : Int32)).toUInt32.toUInt16.toUInt32.toInt32), (72 : Int32)] : List Int32).map (fun c => c.toInt8.toInt32)).map Value.int) (.int (0 : Int32)) := V_r3.ext E22
  have E_r7 : Exa Z h22 r7 "java/lang/String" := E_r7.ext E22
  have Fv_r7 : Fld Z h22 r7 "java/lang/String" "value" "[B" (.ref t7) := Fv_r7.ext E22
  have Fc_r7 : Fld Z h22 r7 "java/lang/String" "coder" "B" (.int (0 : Int32)) := Fc_r7.ext E22
  have V_r7 : Arv Z h22 t7 kk7 .byte (2 : Int32) ((([(nar .char (p2 &&& (255 : Int32)).toUInt32.toUInt16.toUInt32.toInt32), (65 : Int32)] : List Int32).map (fun c => c.toInt8.toInt32)).map Value.int) (.int (0 : Int32)) := V_r7.ext E22
  have E_r11 : Exa Z h22 r11 "java/lang/String" := E_r11.ext E22
  have Fv_r11 : Fld Z h22 r11 "java/lang/String" "value" "[B" (.ref t11) := Fv_r11.ext E22
  have Fc_r11 : Fld Z h22 r11 "java/lang/String" "coder" "B" (.int (0 : Int32)) := Fc_r11.ext E22
  have V_r11 : Arv Z h22 t11 kk11 .byte (2 : Int32) ((([(nar .char (p3 &&& (255 : Int32)).toUInt32.toUInt16.toUInt32.toInt32), (73 : Int32)] : List Int32).map (fun c => c.toInt8.toInt32)).map Value.int) (.int (0 : Int32)) := V_r11.ext E22
  have E_r15 : Exa Z h22 r15 "java/lang/String" := E_r15.ext E22
  have Fv_r15 : Fld Z h22 r15 "java/lang/String" "value" "[B" (.ref t15) := Fv_r15.ext E22
  have Fc_r15 : Fld Z h22 r15 "java/lang/String" "coder" "B" (.int (0 : Int32)) := Fc_r15.ext E22
  have V_r15 : Arv Z h22 t15 kk15 .byte (2 : Int32) ((([(nar .char (p4 &&& (255 : Int32)).toUInt32.toUInt16.toUInt32.toInt32), (86 : Int32)] : List Int32).map (fun c => c.toInt8.toInt32)).map Value.int) (.int (0 : Int32)) := V_r15.ext E22
  have E_r19 : Exa Z h22 r19 "java/lang/String" := E_r19.ext E22
  have Fv_r19 : Fld Z h22 r19 "java/lang/String" "value" "[B" (.ref t19) := Fv_r19.ext E22
  have Fc_r19 : Fld Z h22 r19 "java/lang/String" "coder" "B" (.int (0 : Int32)) := Fc_r19.ext E22
  have V_r19 : Arv Z h22 t19 kk19 .byte (2 : Int32) ((([(nar .char (((p1.toUInt32 >>> ((8 : Int32) &&& 31).toUInt32).toInt32) &&& (255 : Int32)).toUInt32.toUInt16.toUInt32.toInt32), (83 : Int32)] : List Int32).map (fun c => c.toInt8.toInt32)).map Value.int) (.int (0 : Int32)) := V_r19.ext E22
  have Zs39 : n0 ≤ h22.size := Nat.le_trans Zs20 E22.1
  have KC39 : Keep h0 h22 [] := KC20.ext E22
  have E_b22 : Exa Z h22 b22 "com/example/leasehold/leasehold/LeaseRequest" := A22
  have F_holder_b22 : Fld Z h22 b22 "com/example/leasehold/leasehold/LeaseRequest" "holder" "Ljava/lang/String;" .null := D22 (Or.inr (hw _ (List.mem_of_getElem? (i := 97) rfl))) (ty := (.object "java/lang/String")) (by decide)
  have F_actor_b22 : Fld Z h22 b22 "com/example/leasehold/leasehold/LeaseRequest" "actor" "Ljava/lang/String;" .null := D22 (Or.inr (hw _ (List.mem_of_getElem? (i := 107) rfl))) (ty := (.object "java/lang/String")) (by decide)
  have F_intent_b22 : Fld Z h22 b22 "com/example/leasehold/leasehold/LeaseRequest" "intent" "Ljava/lang/String;" .null := D22 (Or.inr (hw _ (List.mem_of_getElem? (i := 110) rfl))) (ty := (.object "java/lang/String")) (by decide)
  have F_intentVersion_b22 : Fld Z h22 b22 "com/example/leasehold/leasehold/LeaseRequest" "intentVersion" "Ljava/lang/String;" .null := D22 (Or.inr (hw _ (List.mem_of_getElem? (i := 113) rfl))) (ty := (.object "java/lang/String")) (by decide)
  have F_hostId_b22 : Fld Z h22 b22 "com/example/leasehold/leasehold/LeaseRequest" "hostId" "Ljava/lang/String;" .null := D22 (Or.inr (hw _ (List.mem_of_getElem? (i := 116) rfl))) (ty := (.object "java/lang/String")) (by decide)
  have F_pid_b22 : Fld Z h22 b22 "com/example/leasehold/leasehold/LeaseRequest" "pid" "J" (.long (0 : Int64)) := D22 (Or.inr (hw _ (List.mem_of_getElem? (i := 118) rfl))) (ty := .long) (by decide)
  have F_ttlSeconds_b22 : Fld Z h22 b22 "com/example/leasehold/leasehold/LeaseRequest" "ttlSeconds" "J" (.long (0 : Int64)) := D22 (Or.inr (hw _ (List.mem_of_getElem? (i := 120) rfl))) (ty := .long) (by decide)
  have pre40 : ∀ tgt, Steps p.tables e below (T22.setTop (mkF m 62 #[.val (.int p1), .val (.int p2), .val (.int p3), .val (.int p4), .val (.long p5), .second, .val (.long p6), .second, .val (.ref r3), .val (.ref r7), .val (.ref r11), .val (.ref r15), .val (.ref r19), .unset, .unset, .unset, .unset, .unset] [(.long p6), (.long (1 : Int64)), (.long p5), (.ref r19), (.ref r15), (.ref r11), (.ref r7), (.ref r3), (.ref b22), (.ref b22)])) tgt → Steps p.tables e below (s₁.setTop (entryFrame m #[(.int p1), (.int p2), (.int p3), (.int p4), (.long p5), (.long p6)] maxLocals)) tgt := by
    intro tgt kk
    refine pre21 tgt ?_
    refine st22 _ ?_
    show Steps p.tables e below (T22.setTop (mkF m 46 #[.val (.int p1), .val (.int p2), .val (.int p3), .val (.int p4), .val (.long p5), .second, .val (.long p6), .second, .val (.ref r3), .val (.ref r7), .val (.ref r11), .val (.ref r15), .val (.ref r19), .unset, .unset, .unset, .unset, .unset] [(.ref b22)])) _
    refine XS.dup X22.here hx rfl (hb hby at_46) rfl rfl ?_
    show Steps p.tables e below (T22.setTop (mkF m 47 #[.val (.int p1), .val (.int p2), .val (.int p3), .val (.int p4), .val (.long p5), .second, .val (.long p6), .second, .val (.ref r3), .val (.ref r7), .val (.ref r11), .val (.ref r15), .val (.ref r19), .unset, .unset, .unset, .unset, .unset] [(.ref b22), (.ref b22)])) _
    refine XS.aload X22.here hx rfl (hb hby at_47) rfl rfl ?_
    show Steps p.tables e below (T22.setTop (mkF m 49 #[.val (.int p1), .val (.int p2), .val (.int p3), .val (.int p4), .val (.long p5), .second, .val (.long p6), .second, .val (.ref r3), .val (.ref r7), .val (.ref r11), .val (.ref r15), .val (.ref r19), .unset, .unset, .unset, .unset, .unset] [(.ref r3), (.ref b22), (.ref b22)])) _
    refine XS.aload X22.here hx rfl (hb hby at_49) rfl rfl ?_
    show Steps p.tables e below (T22.setTop (mkF m 51 #[.val (.int p1), .val (.int p2), .val (.int p3), .val (.int p4), .val (.long p5), .second, .val (.long p6), .second, .val (.ref r3), .val (.ref r7), .val (.ref r11), .val (.ref r15), .val (.ref r19), .unset, .unset, .unset, .unset, .unset] [(.ref r7), (.ref r3), (.ref b22), (.ref b22)])) _
    refine XS.aload X22.here hx rfl (hb hby at_51) rfl rfl ?_
    show Steps p.tables e below (T22.setTop (mkF m 53 #[.val (.int p1), .val (.int p2), .val (.int p3), .val (.int p4), .val (.long p5), .second, .val (.long p6), .second, .val (.ref r3), .val (.ref r7), .val (.ref r11), .val (.ref r15), .val (.ref r19), .unset, .unset, .unset, .unset, .unset] [(.ref r11), (.ref r7), (.ref r3), (.ref b22), (.ref b22)])) _
    refine XS.aload X22.here hx rfl (hb hby at_53) rfl rfl ?_
    show Steps p.tables e below (T22.setTop (mkF m 55 #[.val (.int p1), .val (.int p2), .val (.int p3), .val (.int p4), .val (.long p5), .second, .val (.long p6), .second, .val (.ref r3), .val (.ref r7), .val (.ref r11), .val (.ref r15), .val (.ref r19), .unset, .unset, .unset, .unset, .unset] [(.ref r15), (.ref r11), (.ref r7), (.ref r3), (.ref b22), (.ref b22)])) _
    refine XS.aload X22.here hx rfl (hb hby at_55) rfl rfl ?_
    show Steps p.tables e below (T22.setTop (mkF m 57 #[.val (.int p1), .val (.int p2), .val (.int p3), .val (.int p4), .val (.long p5), .second, .val (.long p6), .second, .val (.ref r3), .val (.ref r7), .val (.ref r11), .val (.ref r15), .val (.ref r19), .unset, .unset, .unset, .unset, .unset] [(.ref r19), (.ref r15), (.ref r11), (.ref r7), (.ref r3), (.ref b22), (.ref b22)])) _
    refine XS.lload X22.here hx rfl (hb hby at_57) rfl ?_
    show Steps p.tables e below (T22.setTop (mkF m 59 #[.val (.int p1), .val (.int p2), .val (.int p3), .val (.int p4), .val (.long p5), .second, .val (.long p6), .second, .val (.ref r3), .val (.ref r7), .val (.ref r11), .val (.ref r15), .val (.ref r19), .unset, .unset, .unset, .unset, .unset] [(.long p5), (.ref r19), (.ref r15), (.ref r11), (.ref r7), (.ref r3), (.ref b22), (.ref b22)])) _
    refine XS.lconst X22.here hx rfl (hb hby at_59) ?_
    show Steps p.tables e below (T22.setTop (mkF m 60 #[.val (.int p1), .val (.int p2), .val (.int p3), .val (.int p4), .val (.long p5), .second, .val (.long p6), .second, .val (.ref r3), .val (.ref r7), .val (.ref r11), .val (.ref r15), .val (.ref r19), .unset, .unset, .unset, .unset, .unset] [(.long (1 : Int64)), (.long p5), (.ref r19), (.ref r15), (.ref r11), (.ref r7), (.ref r3), (.ref b22), (.ref b22)])) _
    refine XS.lload X22.here hx rfl (hb hby at_60) rfl ?_
    show Steps p.tables e below (T22.setTop (mkF m 62 #[.val (.int p1), .val (.int p2), .val (.int p3), .val (.int p4), .val (.long p5), .second, .val (.long p6), .second, .val (.ref r3), .val (.ref r7), .val (.ref r11), .val (.ref r15), .val (.ref r19), .unset, .unset, .unset, .unset, .unset] [(.long p6), (.long (1 : Int64)), (.long p5), (.ref r19), (.ref r15), (.ref r11), (.ref r7), (.ref r3), (.ref b22), (.ref b22)])) _
    exact kk
  obtain ⟨_, _, ⟨T41, L41, k41, n41⟩, -, X41, ⟨Lc41, hQ41, l41, y41, z41⟩, st41⟩ := Jvm.LawKit.callS X22 hx (y := (⟨"java/lang/Math", "max", "(JJ)J"⟩ : MethodName)) hown (mvT hZ (hw _ (List.mem_of_getElem? (i := 37) rfl))) (mvT hZ (hw _ (List.mem_of_getElem? (i := 38) rfl))) (mvT hZ (hw _ (List.mem_of_getElem? (i := 39) rfl))) (mvT hZ (hw _ (List.mem_of_getElem? (i := 40) rfl))) (by decide) (backOf (W := 9) (rmMax l Z a0 hw [] (1 : Int64) p6 h22 n0 Zs39) hZ (hw _ (List.mem_of_getElem? (i := 40) rfl)) (hw _ (List.mem_of_getElem? (i := 39) rfl)) (by decide) (by decide)) (g := (mkF m 62 #[.val (.int p1), .val (.int p2), .val (.int p3), .val (.int p4), .val (.long p5), .second, .val (.long p6), .second, .val (.ref r3), .val (.ref r7), .val (.ref r11), .val (.ref r15), .val (.ref r19), .unset, .unset, .unset, .unset, .unset] [(.long p6), (.long (1 : Int64)), (.long p5), (.ref r19), (.ref r15), (.ref r11), (.ref r7), (.ref r3), (.ref b22), (.ref b22)])) rfl (by rw [hml]; rfl) (argsL := [(.long (1 : Int64)), (.long p6)]) (rest := [(.long p5), (.ref r19), (.ref r15), (.ref r11), (.ref r7), (.ref r3), (.ref b22), (.ref b22)]) (lenOf pd__JJ_J rfl) rfl (by show 2 * 0 + _ ≤ _; exact Nat.le_of_eq rfl) (hb hby at_62) (fun _ _ => ⟨rfl, e22, (by decide : 16 + 0 ≤ _), (by decide : 47 + 0 ≤ _)⟩)
  dsimp only [Pt.U, Pt.locs, Pt.cells, Pt.slots] at X41 l41 y41 z41 st41 hQ41
  subst l41 y41 z41
  obtain ⟨rfl, N41q, hh41⟩ := hQ41
  have N41 := Fr.app N19 N41q
  have pre42 : ∀ tgt, Steps p.tables e below (T41.setTop (mkF m 65 #[.val (.int p1), .val (.int p2), .val (.int p3), .val (.int p4), .val (.long p5), .second, .val (.long p6), .second, .val (.ref r3), .val (.ref r7), .val (.ref r11), .val (.ref r15), .val (.ref r19), .unset, .unset, .unset, .unset, .unset] [(.long (if (1 : Int64) < p6 then p6 else (1 : Int64))), (.long p5), (.ref r19), (.ref r15), (.ref r11), (.ref r7), (.ref r3), (.ref b22), (.ref b22)])) tgt → Steps p.tables e below (s₁.setTop (entryFrame m #[(.int p1), (.int p2), (.int p3), (.int p4), (.long p5), (.long p6)] maxLocals)) tgt := by
    intro tgt kk
    refine pre40 tgt ?_
    refine st41 _ ?_
    show Steps p.tables e below (T41.setTop (mkF m 65 #[.val (.int p1), .val (.int p2), .val (.int p3), .val (.int p4), .val (.long p5), .second, .val (.long p6), .second, .val (.ref r3), .val (.ref r7), .val (.ref r11), .val (.ref r15), .val (.ref r19), .unset, .unset, .unset, .unset, .unset] [(.long (if (1 : Int64) < p6 then p6 else (1 : Int64))), (.long p5), (.ref r19), (.ref r15), (.ref r11), (.ref r7), (.ref r3), (.ref b22), (.ref b22)])) _
    exact kk
  obtain ⟨_, _, ⟨T43, L43, k43, n43⟩, -, X43, hSi43, hgi43, ⟨Lc43, hQ43, l43, y43, z43⟩, st43⟩ := X41.specialBackS hx (y := (⟨"com/example/leasehold/leasehold/LeaseRequest", "<init>", "(Ljava/lang/String;Ljava/lang/String;Ljava/lang/String;Ljava/lang/String;Ljava/lang/String;JJ)V"⟩ : MethodName)) rfl hown (mvT hZ (hw _ (List.mem_of_getElem? (i := 41) rfl))) (mvT hZ (hw _ (List.mem_of_getElem? (i := 42) rfl))) (mvT hZ (hw _ (List.mem_of_getElem? (i := 43) rfl))) (by decide) (backOfS (W := 1) (rmC l Z a0 hw [] b22 r3 t3 kk3 ((nar .char (p1 &&& (255 : Int32)).toUInt32.toUInt16.toUInt32.toInt32)) z0 aI aA clA r7 r11 r15 r19 (p5) ((if (1 : Int64) < p6 then p6 else (1 : Int64))) h22 n0 Zs39 E_b22 F_holder_b22 F_actor_b22 F_intent_b22 F_intentVersion_b22 F_hostId_b22 F_pid_b22 F_ttlSeconds_b22 S_CS E_r3 Fv_r3 Fc_r3 V_r3 S_A S_I E_I (own_tab_keep KC39 Tb) h72 (own_and255 p1) hz E_r7 E_r11 E_r15 E_r19 gn38 (own_max p6)) hZ (hw _ (List.mem_of_getElem? (i := 43) rfl)) (hw _ (List.mem_of_getElem? (i := 36) rfl)) (by decide) (by decide)) (g := (mkF m 65 #[.val (.int p1), .val (.int p2), .val (.int p3), .val (.int p4), .val (.long p5), .second, .val (.long p6), .second, .val (.ref r3), .val (.ref r7), .val (.ref r11), .val (.ref r15), .val (.ref r19), .unset, .unset, .unset, .unset, .unset] [(.long (if (1 : Int64) < p6 then p6 else (1 : Int64))), (.long p5), (.ref r19), (.ref r15), (.ref r11), (.ref r7), (.ref r3), (.ref b22), (.ref b22)])) rfl (by rw [hml]; rfl) (Steps.refl _) (a := b22) (argsL := [(.ref r3), (.ref r7), (.ref r11), (.ref r15), (.ref r19), (.long p5), (.long (if (1 : Int64) < p6 then p6 else (1 : Int64)))]) (rest := [(.ref b22)]) (lenOf pd__Ljava_lang_String_Ljava_lang_String_Ljava_lang_String_Ljava_lang_String_Ljava_lang_String_JJ_V rfl) rfl (by show 2 * 0 + _ ≤ _; exact Nat.le_of_eq rfl) (hb hby at_65) (fun _ _ => ⟨rfl, hh41, (by decide : 16 + 8 ≤ _), (by decide : 47 + 416 ≤ _)⟩)
  dsimp only [Pt.U, Pt.locs, Pt.cells, Pt.slots] at X43 l43 y43 z43 st43 hQ43 hSi43 hgi43
  subst l43 y43 z43
  obtain ⟨rfl, N43q, K43, Qf43_0, Qf43_1, Qf43_2, Qf43_3, Qf43_4, Qf43_5, Qf43_6⟩ := hQ43
  have N43 := Fr.app N41 N43q
  have hS43 := hSi43
  have hZ : Z.Warmed39 (s.setVm T43.vm).vm := State.Warmed39.trans hZ hSi43.1
  have hown : (s.setVm T43.vm).vm.findClass "com/example/leasehold/leasehold/RecordedValueInPinLaw" = some m.cls := by rw [show (s.setVm T43.vm).vm = T43.vm from rfl, hSi43.1.alike.findClass]; exact hown
  have pl45 := own_plain_Exa E_b22
  have S_CS : Sta Z T43.heap "java/lang/String" "COMPACT_STRINGS" "Z" (.int z0) := own_sta_keep S_CS K43 (allS pl45 all0)
  have S_A : Sta Z T43.heap "java/lang/CharacterDataLatin1" "A" "[I" (.ref aA) := own_sta_keep S_A K43 (allS pl45 all0)
  have S_I : Sta Z T43.heap "java/lang/CharacterDataLatin1" "instance" "Ljava/lang/CharacterDataLatin1;" (.ref aI) := own_sta_keep S_I K43 (allS pl45 all0)
  have E_I : Exa Z T43.heap aI "java/lang/CharacterDataLatin1" := E_I.keep K43
  have S_HOLDER : Sta Z T43.heap "com/example/leasehold/leasehold/RecordedValue" "HOLDER" "Lcom/example/leasehold/leasehold/RecordedValue;" (.ref v0) := own_sta_keep S_HOLDER K43 (allS pl45 all0)
  have S_ACTOR : Sta Z T43.heap "com/example/leasehold/leasehold/RecordedValue" "ACTOR" "Lcom/example/leasehold/leasehold/RecordedValue;" (.ref v1) := own_sta_keep S_ACTOR K43 (allS pl45 all0)
  have S_INTENT : Sta Z T43.heap "com/example/leasehold/leasehold/RecordedValue" "INTENT" "Lcom/example/leasehold/leasehold/RecordedValue;" (.ref v2) := own_sta_keep S_INTENT K43 (allS pl45 all0)
  have S_INTENT_VERSION : Sta Z T43.heap "com/example/leasehold/leasehold/RecordedValue" "INTENT_VERSION" "Lcom/example/leasehold/leasehold/RecordedValue;" (.ref v3) := own_sta_keep S_INTENT_VERSION K43 (allS pl45 all0)
  have E_HOLDER : Exa Z T43.heap v0 "com/example/leasehold/leasehold/RecordedValue" := E_HOLDER.keep K43
  have E_ACTOR : Exa Z T43.heap v1 "com/example/leasehold/leasehold/RecordedValue" := E_ACTOR.keep K43
  have E_INTENT : Exa Z T43.heap v2 "com/example/leasehold/leasehold/RecordedValue" := E_INTENT.keep K43
  have E_INTENT_VERSION : Exa Z T43.heap v3 "com/example/leasehold/leasehold/RecordedValue" := E_INTENT_VERSION.keep K43
  have F_HOLDER : Fld Z T43.heap v0 "java/lang/Enum" "ordinal" "I" (.int (0 : Int32)) := F_HOLDER.keep K43 (ninS ne24 nin0)
  have F_ACTOR : Fld Z T43.heap v1 "java/lang/Enum" "ordinal" "I" (.int (1 : Int32)) := F_ACTOR.keep K43 (ninS ne25 nin0)
  have F_INTENT : Fld Z T43.heap v2 "java/lang/Enum" "ordinal" "I" (.int (2 : Int32)) := F_INTENT.keep K43 (ninS ne26 nin0)
  have F_INTENT_VERSION : Fld Z T43.heap v3 "java/lang/Enum" "ordinal" "I" (.int (3 : Int32)) := F_INTENT_VERSION.keep K43 (ninS ne27 nin0)
  have E_r3 : Exa Z T43.heap r3 "java/lang/String" := E_r3.keep K43
  have Fv_r3 : Fld Z T43.heap r3 "java/lang/String" "value" "[B" (.ref t3) := Fv_r3.keep K43 (ninS ne28 nin0)
  have Fc_r3 : Fld Z T43.heap r3 "java/lang/String" "coder" "B" (.int (0 : Int32)) := Fc_r3.keep K43 (ninS ne28 nin0)
  have V_r3 : Arv Z T43.heap t3 kk3 .byte (2 : Int32) ((([(nar .char (p1 &&& (255 : Int32)).toUInt32.toUInt16.toUInt32.toInt32), (72 : Int32)] : List Int32).map (fun c => c.toInt8.toInt32)).map Value.int) (.int (0 : Int32)) := V_r3.keep K43 (ninS ne29 nin0)
  have E_r7 : Exa Z T43.heap r7 "java/lang/String" := E_r7.keep K43
  have Fv_r7 : Fld Z T43.heap r7 "java/lang/String" "value" "[B" (.ref t7) := Fv_r7.keep K43 (ninS ne30 nin0)
  have Fc_r7 : Fld Z T43.heap r7 "java/lang/String" "coder" "B" (.int (0 : Int32)) := Fc_r7.keep K43 (ninS ne30 nin0)
  have V_r7 : Arv Z T43.heap t7 kk7 .byte (2 : Int32) ((([(nar .char (p2 &&& (255 : Int32)).toUInt32.toUInt16.toUInt32.toInt32), (65 : Int32)] : List Int32).map (fun c => c.toInt8.toInt32)).map Value.int) (.int (0 : Int32)) := V_r7.keep K43 (ninS ne31 nin0)
  have E_r11 : Exa Z T43.heap r11 "java/lang/String" := E_r11.keep K43
  have Fv_r11 : Fld Z T43.heap r11 "java/lang/String" "value" "[B" (.ref t11) := Fv_r11.keep K43 (ninS ne32 nin0)
  have Fc_r11 : Fld Z T43.heap r11 "java/lang/String" "coder" "B" (.int (0 : Int32)) := Fc_r11.keep K43 (ninS ne32 nin0)
  have V_r11 : Arv Z T43.heap t11 kk11 .byte (2 : Int32) ((([(nar .char (p3 &&& (255 : Int32)).toUInt32.toUInt16.toUInt32.toInt32), (73 : Int32)] : List Int32).map (fun c => c.toInt8.toInt32)).map Value.int) (.int (0 : Int32)) := V_r11.keep K43 (ninS ne33 nin0)
  have E_r15 : Exa Z T43.heap r15 "java/lang/String" := E_r15.keep K43
  have Fv_r15 : Fld Z T43.heap r15 "java/lang/String" "value" "[B" (.ref t15) := Fv_r15.keep K43 (ninS ne34 nin0)
  have Fc_r15 : Fld Z T43.heap r15 "java/lang/String" "coder" "B" (.int (0 : Int32)) := Fc_r15.keep K43 (ninS ne34 nin0)
  have V_r15 : Arv Z T43.heap t15 kk15 .byte (2 : Int32) ((([(nar .char (p4 &&& (255 : Int32)).toUInt32.toUInt16.toUInt32.toInt32), (86 : Int32)] : List Int32).map (fun c => c.toInt8.toInt32)).map Value.int) (.int (0 : Int32)) := V_r15.keep K43 (ninS ne35 nin0)
  have E_r19 : Exa Z T43.heap r19 "java/lang/String" := E_r19.keep K43
  have Fv_r19 : Fld Z T43.heap r19 "java/lang/String" "value" "[B" (.ref t19) := Fv_r19.keep K43 (ninS ne36 nin0)
  have Fc_r19 : Fld Z T43.heap r19 "java/lang/String" "coder" "B" (.int (0 : Int32)) := Fc_r19.keep K43 (ninS ne36 nin0)
  have V_r19 : Arv Z T43.heap t19 kk19 .byte (2 : Int32) ((([(nar .char (((p1.toUInt32 >>> ((8 : Int32) &&& 31).toUInt32).toInt32) &&& (255 : Int32)).toUInt32.toUInt16.toUInt32.toInt32), (83 : Int32)] : List Int32).map (fun c => c.toInt8.toInt32)).map Value.int) (.int (0 : Int32)) := V_r19.keep K43 (ninS ne37 nin0)
  have E_b22 : Exa Z T43.heap b22 "com/example/leasehold/leasehold/LeaseRequest" := E_b22.keep K43
  have Zs44 : n0 ≤ T43.heap.size := Nat.le_trans Zs39 K43.1
  have KC44 : Keep h0 T43.heap [] := KC39.trans K43 (allS (Or.inr sz38) all0)
  have F_holder_b22 := Qf43_0
  have F_actor_b22 := Qf43_1
  have F_intent_b22 := Qf43_2
  have F_intentVersion_b22 := Qf43_3
  have F_hostId_b22 := Qf43_4
  have F_pid_b22 := Qf43_5
  have F_ttlSeconds_b22 := Qf43_6
  have pre46 : ∀ tgt, Steps p.tables e below (T43.setTop (mkF m 70 #[.val (.int p1), .val (.int p2), .val (.int p3), .val (.int p4), .val (.long p5), .second, .val (.long p6), .second, .val (.ref r3), .val (.ref r7), .val (.ref r11), .val (.ref r15), .val (.ref r19), .val (.ref b22), .unset, .unset, .unset, .unset] [])) tgt → Steps p.tables e below (s₁.setTop (entryFrame m #[(.int p1), (.int p2), (.int p3), (.int p4), (.long p5), (.long p6)] maxLocals)) tgt := by
    intro tgt kk
    refine pre42 tgt ?_
    refine st43.trans ?_
    show Steps p.tables e below (T43.setTop (mkF m 68 #[.val (.int p1), .val (.int p2), .val (.int p3), .val (.int p4), .val (.long p5), .second, .val (.long p6), .second, .val (.ref r3), .val (.ref r7), .val (.ref r11), .val (.ref r15), .val (.ref r19), .unset, .unset, .unset, .unset, .unset] [(.ref b22)])) _
    refine XS.astore X43.here hx rfl (hb hby at_68) rfl rfl (l' := #[.val (.int p1), .val (.int p2), .val (.int p3), .val (.int p4), .val (.long p5), .second, .val (.long p6), .second, .val (.ref r3), .val (.ref r7), .val (.ref r11), .val (.ref r15), .val (.ref r19), .val (.ref b22), .unset, .unset, .unset, .unset]) rfl ?_
    show Steps p.tables e below (T43.setTop (mkF m 70 #[.val (.int p1), .val (.int p2), .val (.int p3), .val (.int p4), .val (.long p5), .second, .val (.long p6), .second, .val (.ref r3), .val (.ref r7), .val (.ref r11), .val (.ref r15), .val (.ref r19), .val (.ref b22), .unset, .unset, .unset, .unset] [])) _
    exact kk
  obtain ⟨T47, X47, e47, st47⟩ := getS X43 hx hZ hown (host := "") (hw _ (List.mem_of_getElem? (i := 121) rfl)) Via.refl rfl S_HOLDER (g := (mkF m 70 #[.val (.int p1), .val (.int p2), .val (.int p3), .val (.int p4), .val (.long p5), .second, .val (.long p6), .second, .val (.ref r3), .val (.ref r7), .val (.ref r11), .val (.ref r15), .val (.ref r19), .val (.ref b22), .unset, .unset, .unset, .unset] [])) rfl (hb hby at_70)
  have pre48 : ∀ tgt, Steps p.tables e below (T47.setTop (mkF m 75 #[.val (.int p1), .val (.int p2), .val (.int p3), .val (.int p4), .val (.long p5), .second, .val (.long p6), .second, .val (.ref r3), .val (.ref r7), .val (.ref r11), .val (.ref r15), .val (.ref r19), .val (.ref b22), .unset, .unset, .unset, .unset] [(.ref b22), (.ref v0)])) tgt → Steps p.tables e below (s₁.setTop (entryFrame m #[(.int p1), (.int p2), (.int p3), (.int p4), (.long p5), (.long p6)] maxLocals)) tgt := by
    intro tgt kk
    refine pre46 tgt ?_
    refine st47 _ ?_
    show Steps p.tables e below (T47.setTop (mkF m 73 #[.val (.int p1), .val (.int p2), .val (.int p3), .val (.int p4), .val (.long p5), .second, .val (.long p6), .second, .val (.ref r3), .val (.ref r7), .val (.ref r11), .val (.ref r15), .val (.ref r19), .val (.ref b22), .unset, .unset, .unset, .unset] [(.ref v0)])) _
    refine XS.aload X47.here hx rfl (hb hby at_73) rfl rfl ?_
    show Steps p.tables e below (T47.setTop (mkF m 75 #[.val (.int p1), .val (.int p2), .val (.int p3), .val (.int p4), .val (.long p5), .second, .val (.long p6), .second, .val (.ref r3), .val (.ref r7), .val (.ref r11), .val (.ref r15), .val (.ref r19), .val (.ref b22), .unset, .unset, .unset, .unset] [(.ref b22), (.ref v0)])) _
    exact kk
  obtain ⟨cq49, kq49, q49a, q49b, q49c⟩ := isOf hZ e47 E_HOLDER
  obtain ⟨_, _, ⟨T49, L49, k49, n49⟩, -, X49, ⟨Lc49, hQ49, l49, y49, z49⟩, st49⟩ := X47.virtualBack hx (y := (⟨"com/example/leasehold/leasehold/RecordedValue", "in", "(Lcom/example/leasehold/leasehold/LeaseRequest;)Ljava/lang/String;"⟩ : MethodName)) (z := (⟨"com/example/leasehold/leasehold/RecordedValue", "in", "(Lcom/example/leasehold/leasehold/LeaseRequest;)Ljava/lang/String;"⟩ : MethodName)) hown (mvT hZ (hw _ (List.mem_of_getElem? (i := 124) rfl))) (mvT hZ (hw _ (List.mem_of_getElem? (i := 125) rfl))) (notFace_of_selects (args := #[]) (mvT hZ (hw _ (List.mem_of_getElem? (i := 127) rfl)))) (mvT hZ (hw _ (List.mem_of_getElem? (i := 127) rfl))) (mvT hZ (hw _ (List.mem_of_getElem? (i := 126) rfl))) (by decide) (backOf (W := 0) (rmIn0 l Z a0 hw [] v0 b22 r3 T43.heap n0 Zs44 E_HOLDER F_HOLDER E_b22 F_holder_b22) hZ (hw _ (List.mem_of_getElem? (i := 128) rfl)) (hw _ (List.mem_of_getElem? (i := 122) rfl)) (by decide) (by decide)) q49a q49c (g := (mkF m 75 #[.val (.int p1), .val (.int p2), .val (.int p3), .val (.int p4), .val (.long p5), .second, .val (.long p6), .second, .val (.ref r3), .val (.ref r7), .val (.ref r11), .val (.ref r15), .val (.ref r19), .val (.ref b22), .unset, .unset, .unset, .unset] [(.ref b22), (.ref v0)])) rfl (by rw [hml]; rfl) (Steps.refl _) (argsL := [(.ref b22)]) (rest := []) (lenOf pd__Lcom_example_leasehold_leasehold_LeaseRequest__Ljava_lang_String_ rfl) rfl (by show 2 * 0 + _ ≤ _; exact Nat.le_of_eq rfl) (hb hby at_75) (fun _ _ => ⟨rfl, e47, (by decide : 24 + 0 ≤ _), (by decide : 463 + 0 ≤ _)⟩)
  dsimp only [Pt.U, Pt.locs, Pt.cells, Pt.slots] at X49 l49 y49 z49 st49 hQ49
  subst l49 y49 z49
  obtain ⟨rfl, N49q, hh49⟩ := hQ49
  have N49 := Fr.app N43 N49q
  have pre50 : ∀ tgt, Steps p.tables e below (T49.setTop (mkF m 80 #[.val (.int p1), .val (.int p2), .val (.int p3), .val (.int p4), .val (.long p5), .second, .val (.long p6), .second, .val (.ref r3), .val (.ref r7), .val (.ref r11), .val (.ref r15), .val (.ref r19), .val (.ref b22), .val (.ref r3), .unset, .unset, .unset] [])) tgt → Steps p.tables e below (s₁.setTop (entryFrame m #[(.int p1), (.int p2), (.int p3), (.int p4), (.long p5), (.long p6)] maxLocals)) tgt := by
    intro tgt kk
    refine pre48 tgt ?_
    refine st49.trans ?_
    show Steps p.tables e below (T49.setTop (mkF m 78 #[.val (.int p1), .val (.int p2), .val (.int p3), .val (.int p4), .val (.long p5), .second, .val (.long p6), .second, .val (.ref r3), .val (.ref r7), .val (.ref r11), .val (.ref r15), .val (.ref r19), .val (.ref b22), .unset, .unset, .unset, .unset] [(.ref r3)])) _
    refine XS.astore X49.here hx rfl (hb hby at_78) rfl rfl (l' := #[.val (.int p1), .val (.int p2), .val (.int p3), .val (.int p4), .val (.long p5), .second, .val (.long p6), .second, .val (.ref r3), .val (.ref r7), .val (.ref r11), .val (.ref r15), .val (.ref r19), .val (.ref b22), .val (.ref r3), .unset, .unset, .unset]) rfl ?_
    show Steps p.tables e below (T49.setTop (mkF m 80 #[.val (.int p1), .val (.int p2), .val (.int p3), .val (.int p4), .val (.long p5), .second, .val (.long p6), .second, .val (.ref r3), .val (.ref r7), .val (.ref r11), .val (.ref r15), .val (.ref r19), .val (.ref b22), .val (.ref r3), .unset, .unset, .unset] [])) _
    exact kk
  obtain ⟨T51, X51, e51, st51⟩ := getS X49 hx hZ hown (host := "") (hw _ (List.mem_of_getElem? (i := 143) rfl)) Via.refl hh49 S_ACTOR (g := (mkF m 80 #[.val (.int p1), .val (.int p2), .val (.int p3), .val (.int p4), .val (.long p5), .second, .val (.long p6), .second, .val (.ref r3), .val (.ref r7), .val (.ref r11), .val (.ref r15), .val (.ref r19), .val (.ref b22), .val (.ref r3), .unset, .unset, .unset] [])) rfl (hb hby at_80)
  have pre52 : ∀ tgt, Steps p.tables e below (T51.setTop (mkF m 85 #[.val (.int p1), .val (.int p2), .val (.int p3), .val (.int p4), .val (.long p5), .second, .val (.long p6), .second, .val (.ref r3), .val (.ref r7), .val (.ref r11), .val (.ref r15), .val (.ref r19), .val (.ref b22), .val (.ref r3), .unset, .unset, .unset] [(.ref b22), (.ref v1)])) tgt → Steps p.tables e below (s₁.setTop (entryFrame m #[(.int p1), (.int p2), (.int p3), (.int p4), (.long p5), (.long p6)] maxLocals)) tgt := by
    intro tgt kk
    refine pre50 tgt ?_
    refine st51 _ ?_
    show Steps p.tables e below (T51.setTop (mkF m 83 #[.val (.int p1), .val (.int p2), .val (.int p3), .val (.int p4), .val (.long p5), .second, .val (.long p6), .second, .val (.ref r3), .val (.ref r7), .val (.ref r11), .val (.ref r15), .val (.ref r19), .val (.ref b22), .val (.ref r3), .unset, .unset, .unset] [(.ref v1)])) _
    refine XS.aload X51.here hx rfl (hb hby at_83) rfl rfl ?_
    show Steps p.tables e below (T51.setTop (mkF m 85 #[.val (.int p1), .val (.int p2), .val (.int p3), .val (.int p4), .val (.long p5), .second, .val (.long p6), .second, .val (.ref r3), .val (.ref r7), .val (.ref r11), .val (.ref r15), .val (.ref r19), .val (.ref b22), .val (.ref r3), .unset, .unset, .unset] [(.ref b22), (.ref v1)])) _
    exact kk
  obtain ⟨cq53, kq53, q53a, q53b, q53c⟩ := isOf hZ e51 E_ACTOR
  obtain ⟨_, _, ⟨T53, L53, k53, n53⟩, -, X53, ⟨Lc53, hQ53, l53, y53, z53⟩, st53⟩ := X51.virtualBack hx (y := (⟨"com/example/leasehold/leasehold/RecordedValue", "in", "(Lcom/example/leasehold/leasehold/LeaseRequest;)Ljava/lang/String;"⟩ : MethodName)) (z := (⟨"com/example/leasehold/leasehold/RecordedValue", "in", "(Lcom/example/leasehold/leasehold/LeaseRequest;)Ljava/lang/String;"⟩ : MethodName)) hown (mvT hZ (hw _ (List.mem_of_getElem? (i := 124) rfl))) (mvT hZ (hw _ (List.mem_of_getElem? (i := 125) rfl))) (notFace_of_selects (args := #[]) (mvT hZ (hw _ (List.mem_of_getElem? (i := 127) rfl)))) (mvT hZ (hw _ (List.mem_of_getElem? (i := 127) rfl))) (mvT hZ (hw _ (List.mem_of_getElem? (i := 126) rfl))) (by decide) (backOf (W := 0) (rmIn1 l Z a0 hw [] v1 b22 r7 T43.heap n0 Zs44 E_ACTOR F_ACTOR E_b22 F_actor_b22) hZ (hw _ (List.mem_of_getElem? (i := 128) rfl)) (hw _ (List.mem_of_getElem? (i := 122) rfl)) (by decide) (by decide)) q53a q53c (g := (mkF m 85 #[.val (.int p1), .val (.int p2), .val (.int p3), .val (.int p4), .val (.long p5), .second, .val (.long p6), .second, .val (.ref r3), .val (.ref r7), .val (.ref r11), .val (.ref r15), .val (.ref r19), .val (.ref b22), .val (.ref r3), .unset, .unset, .unset] [(.ref b22), (.ref v1)])) rfl (by rw [hml]; rfl) (Steps.refl _) (argsL := [(.ref b22)]) (rest := []) (lenOf pd__Lcom_example_leasehold_leasehold_LeaseRequest__Ljava_lang_String_ rfl) rfl (by show 2 * 0 + _ ≤ _; exact Nat.le_of_eq rfl) (hb hby at_85) (fun _ _ => ⟨rfl, e51, (by decide : 24 + 0 ≤ _), (by decide : 463 + 0 ≤ _)⟩)
  dsimp only [Pt.U, Pt.locs, Pt.cells, Pt.slots] at X53 l53 y53 z53 st53 hQ53
  subst l53 y53 z53
  obtain ⟨rfl, N53q, hh53⟩ := hQ53
  have N53 := Fr.app N49 N53q
  have pre54 : ∀ tgt, Steps p.tables e below (T53.setTop (mkF m 90 #[.val (.int p1), .val (.int p2), .val (.int p3), .val (.int p4), .val (.long p5), .second, .val (.long p6), .second, .val (.ref r3), .val (.ref r7), .val (.ref r11), .val (.ref r15), .val (.ref r19), .val (.ref b22), .val (.ref r3), .val (.ref r7), .unset, .unset] [])) tgt → Steps p.tables e below (s₁.setTop (entryFrame m #[(.int p1), (.int p2), (.int p3), (.int p4), (.long p5), (.long p6)] maxLocals)) tgt := by
    intro tgt kk
    refine pre52 tgt ?_
    refine st53.trans ?_
    show Steps p.tables e below (T53.setTop (mkF m 88 #[.val (.int p1), .val (.int p2), .val (.int p3), .val (.int p4), .val (.long p5), .second, .val (.long p6), .second, .val (.ref r3), .val (.ref r7), .val (.ref r11), .val (.ref r15), .val (.ref r19), .val (.ref b22), .val (.ref r3), .unset, .unset, .unset] [(.ref r7)])) _
    refine XS.astore X53.here hx rfl (hb hby at_88) rfl rfl (l' := #[.val (.int p1), .val (.int p2), .val (.int p3), .val (.int p4), .val (.long p5), .second, .val (.long p6), .second, .val (.ref r3), .val (.ref r7), .val (.ref r11), .val (.ref r15), .val (.ref r19), .val (.ref b22), .val (.ref r3), .val (.ref r7), .unset, .unset]) rfl ?_
    show Steps p.tables e below (T53.setTop (mkF m 90 #[.val (.int p1), .val (.int p2), .val (.int p3), .val (.int p4), .val (.long p5), .second, .val (.long p6), .second, .val (.ref r3), .val (.ref r7), .val (.ref r11), .val (.ref r15), .val (.ref r19), .val (.ref b22), .val (.ref r3), .val (.ref r7), .unset, .unset] [])) _
    exact kk
  obtain ⟨T55, X55, e55, st55⟩ := getS X53 hx hZ hown (host := "") (hw _ (List.mem_of_getElem? (i := 150) rfl)) Via.refl hh53 S_INTENT (g := (mkF m 90 #[.val (.int p1), .val (.int p2), .val (.int p3), .val (.int p4), .val (.long p5), .second, .val (.long p6), .second, .val (.ref r3), .val (.ref r7), .val (.ref r11), .val (.ref r15), .val (.ref r19), .val (.ref b22), .val (.ref r3), .val (.ref r7), .unset, .unset] [])) rfl (hb hby at_90)
  have pre56 : ∀ tgt, Steps p.tables e below (T55.setTop (mkF m 95 #[.val (.int p1), .val (.int p2), .val (.int p3), .val (.int p4), .val (.long p5), .second, .val (.long p6), .second, .val (.ref r3), .val (.ref r7), .val (.ref r11), .val (.ref r15), .val (.ref r19), .val (.ref b22), .val (.ref r3), .val (.ref r7), .unset, .unset] [(.ref b22), (.ref v2)])) tgt → Steps p.tables e below (s₁.setTop (entryFrame m #[(.int p1), (.int p2), (.int p3), (.int p4), (.long p5), (.long p6)] maxLocals)) tgt := by
    intro tgt kk
    refine pre54 tgt ?_
    refine st55 _ ?_
    show Steps p.tables e below (T55.setTop (mkF m 93 #[.val (.int p1), .val (.int p2), .val (.int p3), .val (.int p4), .val (.long p5), .second, .val (.long p6), .second, .val (.ref r3), .val (.ref r7), .val (.ref r11), .val (.ref r15), .val (.ref r19), .val (.ref b22), .val (.ref r3), .val (.ref r7), .unset, .unset] [(.ref v2)])) _
    refine XS.aload X55.here hx rfl (hb hby at_93) rfl rfl ?_
    show Steps p.tables e below (T55.setTop (mkF m 95 #[.val (.int p1), .val (.int p2), .val (.int p3), .val (.int p4), .val (.long p5), .second, .val (.long p6), .second, .val (.ref r3), .val (.ref r7), .val (.ref r11), .val (.ref r15), .val (.ref r19), .val (.ref b22), .val (.ref r3), .val (.ref r7), .unset, .unset] [(.ref b22), (.ref v2)])) _
    exact kk
  obtain ⟨cq57, kq57, q57a, q57b, q57c⟩ := isOf hZ e55 E_INTENT
  obtain ⟨_, _, ⟨T57, L57, k57, n57⟩, -, X57, ⟨Lc57, hQ57, l57, y57, z57⟩, st57⟩ := X55.virtualBack hx (y := (⟨"com/example/leasehold/leasehold/RecordedValue", "in", "(Lcom/example/leasehold/leasehold/LeaseRequest;)Ljava/lang/String;"⟩ : MethodName)) (z := (⟨"com/example/leasehold/leasehold/RecordedValue", "in", "(Lcom/example/leasehold/leasehold/LeaseRequest;)Ljava/lang/String;"⟩ : MethodName)) hown (mvT hZ (hw _ (List.mem_of_getElem? (i := 124) rfl))) (mvT hZ (hw _ (List.mem_of_getElem? (i := 125) rfl))) (notFace_of_selects (args := #[]) (mvT hZ (hw _ (List.mem_of_getElem? (i := 127) rfl)))) (mvT hZ (hw _ (List.mem_of_getElem? (i := 127) rfl))) (mvT hZ (hw _ (List.mem_of_getElem? (i := 126) rfl))) (by decide) (backOf (W := 0) (rmIn2 l Z a0 hw [] v2 b22 r11 T43.heap n0 Zs44 E_INTENT F_INTENT E_b22 F_intent_b22) hZ (hw _ (List.mem_of_getElem? (i := 128) rfl)) (hw _ (List.mem_of_getElem? (i := 122) rfl)) (by decide) (by decide)) q57a q57c (g := (mkF m 95 #[.val (.int p1), .val (.int p2), .val (.int p3), .val (.int p4), .val (.long p5), .second, .val (.long p6), .second, .val (.ref r3), .val (.ref r7), .val (.ref r11), .val (.ref r15), .val (.ref r19), .val (.ref b22), .val (.ref r3), .val (.ref r7), .unset, .unset] [(.ref b22), (.ref v2)])) rfl (by rw [hml]; rfl) (Steps.refl _) (argsL := [(.ref b22)]) (rest := []) (lenOf pd__Lcom_example_leasehold_leasehold_LeaseRequest__Ljava_lang_String_ rfl) rfl (by show 2 * 0 + _ ≤ _; exact Nat.le_of_eq rfl) (hb hby at_95) (fun _ _ => ⟨rfl, e55, (by decide : 24 + 0 ≤ _), (by decide : 463 + 0 ≤ _)⟩)
  dsimp only [Pt.U, Pt.locs, Pt.cells, Pt.slots] at X57 l57 y57 z57 st57 hQ57
  subst l57 y57 z57
  obtain ⟨rfl, N57q, hh57⟩ := hQ57
  have N57 := Fr.app N53 N57q
  have pre58 : ∀ tgt, Steps p.tables e below (T57.setTop (mkF m 100 #[.val (.int p1), .val (.int p2), .val (.int p3), .val (.int p4), .val (.long p5), .second, .val (.long p6), .second, .val (.ref r3), .val (.ref r7), .val (.ref r11), .val (.ref r15), .val (.ref r19), .val (.ref b22), .val (.ref r3), .val (.ref r7), .val (.ref r11), .unset] [])) tgt → Steps p.tables e below (s₁.setTop (entryFrame m #[(.int p1), (.int p2), (.int p3), (.int p4), (.long p5), (.long p6)] maxLocals)) tgt := by
    intro tgt kk
    refine pre56 tgt ?_
    refine st57.trans ?_
    show Steps p.tables e below (T57.setTop (mkF m 98 #[.val (.int p1), .val (.int p2), .val (.int p3), .val (.int p4), .val (.long p5), .second, .val (.long p6), .second, .val (.ref r3), .val (.ref r7), .val (.ref r11), .val (.ref r15), .val (.ref r19), .val (.ref b22), .val (.ref r3), .val (.ref r7), .unset, .unset] [(.ref r11)])) _
    refine XS.astore X57.here hx rfl (hb hby at_98) rfl rfl (l' := #[.val (.int p1), .val (.int p2), .val (.int p3), .val (.int p4), .val (.long p5), .second, .val (.long p6), .second, .val (.ref r3), .val (.ref r7), .val (.ref r11), .val (.ref r15), .val (.ref r19), .val (.ref b22), .val (.ref r3), .val (.ref r7), .val (.ref r11), .unset]) rfl ?_
    show Steps p.tables e below (T57.setTop (mkF m 100 #[.val (.int p1), .val (.int p2), .val (.int p3), .val (.int p4), .val (.long p5), .second, .val (.long p6), .second, .val (.ref r3), .val (.ref r7), .val (.ref r11), .val (.ref r15), .val (.ref r19), .val (.ref b22), .val (.ref r3), .val (.ref r7), .val (.ref r11), .unset] [])) _
    exact kk
  obtain ⟨T59, X59, e59, st59⟩ := getS X57 hx hZ hown (host := "") (hw _ (List.mem_of_getElem? (i := 157) rfl)) Via.refl hh57 S_INTENT_VERSION (g := (mkF m 100 #[.val (.int p1), .val (.int p2), .val (.int p3), .val (.int p4), .val (.long p5), .second, .val (.long p6), .second, .val (.ref r3), .val (.ref r7), .val (.ref r11), .val (.ref r15), .val (.ref r19), .val (.ref b22), .val (.ref r3), .val (.ref r7), .val (.ref r11), .unset] [])) rfl (hb hby at_100)
  have pre60 : ∀ tgt, Steps p.tables e below (T59.setTop (mkF m 105 #[.val (.int p1), .val (.int p2), .val (.int p3), .val (.int p4), .val (.long p5), .second, .val (.long p6), .second, .val (.ref r3), .val (.ref r7), .val (.ref r11), .val (.ref r15), .val (.ref r19), .val (.ref b22), .val (.ref r3), .val (.ref r7), .val (.ref r11), .unset] [(.ref b22), (.ref v3)])) tgt → Steps p.tables e below (s₁.setTop (entryFrame m #[(.int p1), (.int p2), (.int p3), (.int p4), (.long p5), (.long p6)] maxLocals)) tgt := by
    intro tgt kk
    refine pre58 tgt ?_
    refine st59 _ ?_
    show Steps p.tables e below (T59.setTop (mkF m 103 #[.val (.int p1), .val (.int p2), .val (.int p3), .val (.int p4), .val (.long p5), .second, .val (.long p6), .second, .val (.ref r3), .val (.ref r7), .val (.ref r11), .val (.ref r15), .val (.ref r19), .val (.ref b22), .val (.ref r3), .val (.ref r7), .val (.ref r11), .unset] [(.ref v3)])) _
    refine XS.aload X59.here hx rfl (hb hby at_103) rfl rfl ?_
    show Steps p.tables e below (T59.setTop (mkF m 105 #[.val (.int p1), .val (.int p2), .val (.int p3), .val (.int p4), .val (.long p5), .second, .val (.long p6), .second, .val (.ref r3), .val (.ref r7), .val (.ref r11), .val (.ref r15), .val (.ref r19), .val (.ref b22), .val (.ref r3), .val (.ref r7), .val (.ref r11), .unset] [(.ref b22), (.ref v3)])) _
    exact kk
  obtain ⟨cq61, kq61, q61a, q61b, q61c⟩ := isOf hZ e59 E_INTENT_VERSION
  obtain ⟨_, _, ⟨T61, L61, k61, n61⟩, -, X61, ⟨Lc61, hQ61, l61, y61, z61⟩, st61⟩ := X59.virtualBack hx (y := (⟨"com/example/leasehold/leasehold/RecordedValue", "in", "(Lcom/example/leasehold/leasehold/LeaseRequest;)Ljava/lang/String;"⟩ : MethodName)) (z := (⟨"com/example/leasehold/leasehold/RecordedValue", "in", "(Lcom/example/leasehold/leasehold/LeaseRequest;)Ljava/lang/String;"⟩ : MethodName)) hown (mvT hZ (hw _ (List.mem_of_getElem? (i := 124) rfl))) (mvT hZ (hw _ (List.mem_of_getElem? (i := 125) rfl))) (notFace_of_selects (args := #[]) (mvT hZ (hw _ (List.mem_of_getElem? (i := 127) rfl)))) (mvT hZ (hw _ (List.mem_of_getElem? (i := 127) rfl))) (mvT hZ (hw _ (List.mem_of_getElem? (i := 126) rfl))) (by decide) (backOf (W := 0) (rmIn3 l Z a0 hw [] v3 b22 r15 T43.heap n0 Zs44 E_INTENT_VERSION F_INTENT_VERSION E_b22 F_intentVersion_b22) hZ (hw _ (List.mem_of_getElem? (i := 128) rfl)) (hw _ (List.mem_of_getElem? (i := 122) rfl)) (by decide) (by decide)) q61a q61c (g := (mkF m 105 #[.val (.int p1), .val (.int p2), .val (.int p3), .val (.int p4), .val (.long p5), .second, .val (.long p6), .second, .val (.ref r3), .val (.ref r7), .val (.ref r11), .val (.ref r15), .val (.ref r19), .val (.ref b22), .val (.ref r3), .val (.ref r7), .val (.ref r11), .unset] [(.ref b22), (.ref v3)])) rfl (by rw [hml]; rfl) (Steps.refl _) (argsL := [(.ref b22)]) (rest := []) (lenOf pd__Lcom_example_leasehold_leasehold_LeaseRequest__Ljava_lang_String_ rfl) rfl (by show 2 * 0 + _ ≤ _; exact Nat.le_of_eq rfl) (hb hby at_105) (fun _ _ => ⟨rfl, e59, (by decide : 24 + 0 ≤ _), (by decide : 463 + 0 ≤ _)⟩)
  dsimp only [Pt.U, Pt.locs, Pt.cells, Pt.slots] at X61 l61 y61 z61 st61 hQ61
  subst l61 y61 z61
  obtain ⟨rfl, N61q, hh61⟩ := hQ61
  have N61 := Fr.app N57 N61q
  have pre62 : ∀ tgt, Steps p.tables e below (T61.setTop (mkF m 135 #[.val (.int p1), .val (.int p2), .val (.int p3), .val (.int p4), .val (.long p5), .second, .val (.long p6), .second, .val (.ref r3), .val (.ref r7), .val (.ref r11), .val (.ref r15), .val (.ref r19), .val (.ref b22), .val (.ref r3), .val (.ref r7), .val (.ref r11), .val (.ref r15)] [(.int (72 : Int32)), (.int p1), (.ref r3)])) tgt → Steps p.tables e below (s₁.setTop (entryFrame m #[(.int p1), (.int p2), (.int p3), (.int p4), (.long p5), (.long p6)] maxLocals)) tgt := by
    intro tgt kk
    refine pre60 tgt ?_
    refine st61.trans ?_
    show Steps p.tables e below (T61.setTop (mkF m 108 #[.val (.int p1), .val (.int p2), .val (.int p3), .val (.int p4), .val (.long p5), .second, .val (.long p6), .second, .val (.ref r3), .val (.ref r7), .val (.ref r11), .val (.ref r15), .val (.ref r19), .val (.ref b22), .val (.ref r3), .val (.ref r7), .val (.ref r11), .unset] [(.ref r15)])) _
    refine XS.astore X61.here hx rfl (hb hby at_108) rfl rfl (l' := #[.val (.int p1), .val (.int p2), .val (.int p3), .val (.int p4), .val (.long p5), .second, .val (.long p6), .second, .val (.ref r3), .val (.ref r7), .val (.ref r11), .val (.ref r15), .val (.ref r19), .val (.ref b22), .val (.ref r3), .val (.ref r7), .val (.ref r11), .val (.ref r15)]) rfl ?_
    show Steps p.tables e below (T61.setTop (mkF m 110 #[.val (.int p1), .val (.int p2), .val (.int p3), .val (.int p4), .val (.long p5), .second, .val (.long p6), .second, .val (.ref r3), .val (.ref r7), .val (.ref r11), .val (.ref r15), .val (.ref r19), .val (.ref b22), .val (.ref r3), .val (.ref r7), .val (.ref r11), .val (.ref r15)] [])) _
    refine XS.aload X61.here hx rfl (hb hby at_110) rfl rfl ?_
    show Steps p.tables e below (T61.setTop (mkF m 112 #[.val (.int p1), .val (.int p2), .val (.int p3), .val (.int p4), .val (.long p5), .second, .val (.long p6), .second, .val (.ref r3), .val (.ref r7), .val (.ref r11), .val (.ref r15), .val (.ref r19), .val (.ref b22), .val (.ref r3), .val (.ref r7), .val (.ref r11), .val (.ref r15)] [(.ref r3)])) _
    refine XT.nullNo X61.here hx rfl (hb hby at_112) rfl rfl (by intro q; cases q) ?_
    show Steps p.tables e below (T61.setTop (mkF m 115 #[.val (.int p1), .val (.int p2), .val (.int p3), .val (.int p4), .val (.long p5), .second, .val (.long p6), .second, .val (.ref r3), .val (.ref r7), .val (.ref r11), .val (.ref r15), .val (.ref r19), .val (.ref b22), .val (.ref r3), .val (.ref r7), .val (.ref r11), .val (.ref r15)] [])) _
    refine XS.aload X61.here hx rfl (hb hby at_115) rfl rfl ?_
    show Steps p.tables e below (T61.setTop (mkF m 117 #[.val (.int p1), .val (.int p2), .val (.int p3), .val (.int p4), .val (.long p5), .second, .val (.long p6), .second, .val (.ref r3), .val (.ref r7), .val (.ref r11), .val (.ref r15), .val (.ref r19), .val (.ref b22), .val (.ref r3), .val (.ref r7), .val (.ref r11), .val (.ref r15)] [(.ref r7)])) _
    refine XT.nullNo X61.here hx rfl (hb hby at_117) rfl rfl (by intro q; cases q) ?_
    show Steps p.tables e below (T61.setTop (mkF m 120 #[.val (.int p1), .val (.int p2), .val (.int p3), .val (.int p4), .val (.long p5), .second, .val (.long p6), .second, .val (.ref r3), .val (.ref r7), .val (.ref r11), .val (.ref r15), .val (.ref r19), .val (.ref b22), .val (.ref r3), .val (.ref r7), .val (.ref r11), .val (.ref r15)] [])) _
    refine XS.aload X61.here hx rfl (hb hby at_120) rfl rfl ?_
    show Steps p.tables e below (T61.setTop (mkF m 122 #[.val (.int p1), .val (.int p2), .val (.int p3), .val (.int p4), .val (.long p5), .second, .val (.long p6), .second, .val (.ref r3), .val (.ref r7), .val (.ref r11), .val (.ref r15), .val (.ref r19), .val (.ref b22), .val (.ref r3), .val (.ref r7), .val (.ref r11), .val (.ref r15)] [(.ref r11)])) _
    refine XT.nullNo X61.here hx rfl (hb hby at_122) rfl rfl (by intro q; cases q) ?_
    show Steps p.tables e below (T61.setTop (mkF m 125 #[.val (.int p1), .val (.int p2), .val (.int p3), .val (.int p4), .val (.long p5), .second, .val (.long p6), .second, .val (.ref r3), .val (.ref r7), .val (.ref r11), .val (.ref r15), .val (.ref r19), .val (.ref b22), .val (.ref r3), .val (.ref r7), .val (.ref r11), .val (.ref r15)] [])) _
    refine XS.aload X61.here hx rfl (hb hby at_125) rfl rfl ?_
    show Steps p.tables e below (T61.setTop (mkF m 127 #[.val (.int p1), .val (.int p2), .val (.int p3), .val (.int p4), .val (.long p5), .second, .val (.long p6), .second, .val (.ref r3), .val (.ref r7), .val (.ref r11), .val (.ref r15), .val (.ref r19), .val (.ref b22), .val (.ref r3), .val (.ref r7), .val (.ref r11), .val (.ref r15)] [(.ref r15)])) _
    refine XT.nullNo X61.here hx rfl (hb hby at_127) rfl rfl (by intro q; cases q) ?_
    show Steps p.tables e below (T61.setTop (mkF m 130 #[.val (.int p1), .val (.int p2), .val (.int p3), .val (.int p4), .val (.long p5), .second, .val (.long p6), .second, .val (.ref r3), .val (.ref r7), .val (.ref r11), .val (.ref r15), .val (.ref r19), .val (.ref b22), .val (.ref r3), .val (.ref r7), .val (.ref r11), .val (.ref r15)] [])) _
    refine XS.aload X61.here hx rfl (hb hby at_130) rfl rfl ?_
    show Steps p.tables e below (T61.setTop (mkF m 132 #[.val (.int p1), .val (.int p2), .val (.int p3), .val (.int p4), .val (.long p5), .second, .val (.long p6), .second, .val (.ref r3), .val (.ref r7), .val (.ref r11), .val (.ref r15), .val (.ref r19), .val (.ref b22), .val (.ref r3), .val (.ref r7), .val (.ref r11), .val (.ref r15)] [(.ref r3)])) _
    refine XS.iloadN X61.here hx rfl (hb hby at_132) rfl ?_
    show Steps p.tables e below (T61.setTop (mkF m 133 #[.val (.int p1), .val (.int p2), .val (.int p3), .val (.int p4), .val (.long p5), .second, .val (.long p6), .second, .val (.ref r3), .val (.ref r7), .val (.ref r11), .val (.ref r15), .val (.ref r19), .val (.ref b22), .val (.ref r3), .val (.ref r7), .val (.ref r11), .val (.ref r15)] [(.int p1), (.ref r3)])) _
    refine XS.bipush X61.here hx rfl (hb hby at_133) ?_
    show Steps p.tables e below (T61.setTop (mkF m 135 #[.val (.int p1), .val (.int p2), .val (.int p3), .val (.int p4), .val (.long p5), .second, .val (.long p6), .second, .val (.ref r3), .val (.ref r7), .val (.ref r11), .val (.ref r15), .val (.ref r19), .val (.ref b22), .val (.ref r3), .val (.ref r7), .val (.ref r11), .val (.ref r15)] [(.int (72 : Int32)), (.int p1), (.ref r3)])) _
    exact kk
  have lt63_0 := E_I.lt
  have lt63_1 := E_HOLDER.lt
  have lt63_2 := E_ACTOR.lt
  have lt63_3 := E_INTENT.lt
  have lt63_4 := E_INTENT_VERSION.lt
  have lt63_5 := E_r3.lt
  have lt63_6 := V_r3.lt
  have lt63_7 := E_r7.lt
  have lt63_8 := V_r7.lt
  have lt63_9 := E_r11.lt
  have lt63_10 := V_r11.lt
  have lt63_11 := E_r15.lt
  have lt63_12 := V_r15.lt
  have lt63_13 := E_r19.lt
  have lt63_14 := V_r19.lt
  have lt63_15 := E_b22.lt
  obtain ⟨_, _, ⟨T64, L64, k64, n64⟩, -, X64, ⟨Lc64, hQ64, l64, y64, z64⟩, st64⟩ := Jvm.LawKit.callS X61 hx (y := (⟨"com/example/leasehold/leasehold/RecordedValueInPinLaw", "two", "(IC)Ljava/lang/String;"⟩ : MethodName)) hown (mvT hZ (hw _ (List.mem_of_getElem? (i := 0) rfl))) (mvT hZ (hw _ (List.mem_of_getElem? (i := 1) rfl))) (mvT hZ (hw _ (List.mem_of_getElem? (i := 2) rfl))) (mvT hZ (hw _ (List.mem_of_getElem? (i := 3) rfl))) (by decide) (backOf (W := 1) (rmTwo l Z a0 hw [] (p1) ((72 : Int32)) z0 T43.heap n0 Zs44 S_CS hz (by decide)) hZ (hw _ (List.mem_of_getElem? (i := 3) rfl)) (hw _ (List.mem_of_getElem? (i := 2) rfl)) (by decide) (by decide)) (g := (mkF m 135 #[.val (.int p1), .val (.int p2), .val (.int p3), .val (.int p4), .val (.long p5), .second, .val (.long p6), .second, .val (.ref r3), .val (.ref r7), .val (.ref r11), .val (.ref r15), .val (.ref r19), .val (.ref b22), .val (.ref r3), .val (.ref r7), .val (.ref r11), .val (.ref r15)] [(.int (72 : Int32)), (.int p1), (.ref r3)])) rfl (by rw [hml]; rfl) (argsL := [(.int p1), (.int (72 : Int32))]) (rest := [(.ref r3)]) (lenOf pd__IC_Ljava_lang_String_ rfl) rfl (by show 2 * 0 + _ ≤ _; exact Nat.le_of_eq rfl) (hb hby at_135) (fun _ _ => ⟨rfl, hh61, (by decide : 24 + 3 ≤ _), (by decide : 463 + 8 ≤ _)⟩)
  dsimp only [Pt.U, Pt.locs, Pt.cells, Pt.slots] at X64 l64 y64 z64 st64 hQ64
  subst l64 y64 z64
  obtain ⟨r64, t64, kk64, rfl, N64q, K64, gr64, sr64, gt64, st_64, Qe64, Qv64, Qc64, Qa64⟩ := hQ64
  have N64 := Fr.app N61 N64q
  have S_CS : Sta Z T64.heap "java/lang/String" "COMPACT_STRINGS" "Z" (.int z0) := own_sta_keep S_CS K64 all0
  have S_A : Sta Z T64.heap "java/lang/CharacterDataLatin1" "A" "[I" (.ref aA) := own_sta_keep S_A K64 all0
  have S_I : Sta Z T64.heap "java/lang/CharacterDataLatin1" "instance" "Ljava/lang/CharacterDataLatin1;" (.ref aI) := own_sta_keep S_I K64 all0
  have E_I : Exa Z T64.heap aI "java/lang/CharacterDataLatin1" := E_I.keep K64
  have S_HOLDER : Sta Z T64.heap "com/example/leasehold/leasehold/RecordedValue" "HOLDER" "Lcom/example/leasehold/leasehold/RecordedValue;" (.ref v0) := own_sta_keep S_HOLDER K64 all0
  have S_ACTOR : Sta Z T64.heap "com/example/leasehold/leasehold/RecordedValue" "ACTOR" "Lcom/example/leasehold/leasehold/RecordedValue;" (.ref v1) := own_sta_keep S_ACTOR K64 all0
  have S_INTENT : Sta Z T64.heap "com/example/leasehold/leasehold/RecordedValue" "INTENT" "Lcom/example/leasehold/leasehold/RecordedValue;" (.ref v2) := own_sta_keep S_INTENT K64 all0
  have S_INTENT_VERSION : Sta Z T64.heap "com/example/leasehold/leasehold/RecordedValue" "INTENT_VERSION" "Lcom/example/leasehold/leasehold/RecordedValue;" (.ref v3) := own_sta_keep S_INTENT_VERSION K64 all0
  have E_HOLDER : Exa Z T64.heap v0 "com/example/leasehold/leasehold/RecordedValue" := E_HOLDER.keep K64
  have E_ACTOR : Exa Z T64.heap v1 "com/example/leasehold/leasehold/RecordedValue" := E_ACTOR.keep K64
  have E_INTENT : Exa Z T64.heap v2 "com/example/leasehold/leasehold/RecordedValue" := E_INTENT.keep K64
  have E_INTENT_VERSION : Exa Z T64.heap v3 "com/example/leasehold/leasehold/RecordedValue" := E_INTENT_VERSION.keep K64
  have F_HOLDER : Fld Z T64.heap v0 "java/lang/Enum" "ordinal" "I" (.int (0 : Int32)) := F_HOLDER.keep K64 nin0
  have F_ACTOR : Fld Z T64.heap v1 "java/lang/Enum" "ordinal" "I" (.int (1 : Int32)) := F_ACTOR.keep K64 nin0
  have F_INTENT : Fld Z T64.heap v2 "java/lang/Enum" "ordinal" "I" (.int (2 : Int32)) := F_INTENT.keep K64 nin0
  have F_INTENT_VERSION : Fld Z T64.heap v3 "java/lang/Enum" "ordinal" "I" (.int (3 : Int32)) := F_INTENT_VERSION.keep K64 nin0
  have E_r3 : Exa Z T64.heap r3 "java/lang/String" := E_r3.keep K64
  have Fv_r3 : Fld Z T64.heap r3 "java/lang/String" "value" "[B" (.ref t3) := Fv_r3.keep K64 nin0
  have Fc_r3 : Fld Z T64.heap r3 "java/lang/String" "coder" "B" (.int (0 : Int32)) := Fc_r3.keep K64 nin0
  have V_r3 : Arv Z T64.heap t3 kk3 .byte (2 : Int32) ((([(nar .char (p1 &&& (255 : Int32)).toUInt32.toUInt16.toUInt32.toInt32), (72 : Int32)] : List Int32).map (fun c => c.toInt8.toInt32)).map Value.int) (.int (0 : Int32)) := V_r3.keep K64 nin0
  have E_r7 : Exa Z T64.heap r7 "java/lang/String" := E_r7.keep K64
  have Fv_r7 : Fld Z T64.heap r7 "java/lang/String" "value" "[B" (.ref t7) := Fv_r7.keep K64 nin0
  have Fc_r7 : Fld Z T64.heap r7 "java/lang/String" "coder" "B" (.int (0 : Int32)) := Fc_r7.keep K64 nin0
  have V_r7 : Arv Z T64.heap t7 kk7 .byte (2 : Int32) ((([(nar .char (p2 &&& (255 : Int32)).toUInt32.toUInt16.toUInt32.toInt32), (65 : Int32)] : List Int32).map (fun c => c.toInt8.toInt32)).map Value.int) (.int (0 : Int32)) := V_r7.keep K64 nin0
  have E_r11 : Exa Z T64.heap r11 "java/lang/String" := E_r11.keep K64
  have Fv_r11 : Fld Z T64.heap r11 "java/lang/String" "value" "[B" (.ref t11) := Fv_r11.keep K64 nin0
  have Fc_r11 : Fld Z T64.heap r11 "java/lang/String" "coder" "B" (.int (0 : Int32)) := Fc_r11.keep K64 nin0
  have V_r11 : Arv Z T64.heap t11 kk11 .byte (2 : Int32) ((([(nar .char (p3 &&& (255 : Int32)).toUInt32.toUInt16.toUInt32.toInt32), (73 : Int32)] : List Int32).map (fun c => c.toInt8.toInt32)).map Value.int) (.int (0 : Int32)) := V_r11.keep K64 nin0
  have E_r15 : Exa Z T64.heap r15 "java/lang/String" := E_r15.keep K64
  have Fv_r15 : Fld Z T64.heap r15 "java/lang/String" "value" "[B" (.ref t15) := Fv_r15.keep K64 nin0
  have Fc_r15 : Fld Z T64.heap r15 "java/lang/String" "coder" "B" (.int (0 : Int32)) := Fc_r15.keep K64 nin0
  have V_r15 : Arv Z T64.heap t15 kk15 .byte (2 : Int32) ((([(nar .char (p4 &&& (255 : Int32)).toUInt32.toUInt16.toUInt32.toInt32), (86 : Int32)] : List Int32).map (fun c => c.toInt8.toInt32)).map Value.int) (.int (0 : Int32)) := V_r15.keep K64 nin0
  have E_r19 : Exa Z T64.heap r19 "java/lang/String" := E_r19.keep K64
  have Fv_r19 : Fld Z T64.heap r19 "java/lang/String" "value" "[B" (.ref t19) := Fv_r19.keep K64 nin0
  have Fc_r19 : Fld Z T64.heap r19 "java/lang/String" "coder" "B" (.int (0 : Int32)) := Fc_r19.keep K64 nin0
  have V_r19 : Arv Z T64.heap t19 kk19 .byte (2 : Int32) ((([(nar .char (((p1.toUInt32 >>> ((8 : Int32) &&& 31).toUInt32).toInt32) &&& (255 : Int32)).toUInt32.toUInt16.toUInt32.toInt32), (83 : Int32)] : List Int32).map (fun c => c.toInt8.toInt32)).map Value.int) (.int (0 : Int32)) := V_r19.keep K64 nin0
  have E_b22 : Exa Z T64.heap b22 "com/example/leasehold/leasehold/LeaseRequest" := E_b22.keep K64
  have F_holder_b22 : Fld Z T64.heap b22 "com/example/leasehold/leasehold/LeaseRequest" "holder" "Ljava/lang/String;" (.ref r3) := F_holder_b22.keep K64 nin0
  have F_actor_b22 : Fld Z T64.heap b22 "com/example/leasehold/leasehold/LeaseRequest" "actor" "Ljava/lang/String;" (.ref r7) := F_actor_b22.keep K64 nin0
  have F_intent_b22 : Fld Z T64.heap b22 "com/example/leasehold/leasehold/LeaseRequest" "intent" "Ljava/lang/String;" (.ref r11) := F_intent_b22.keep K64 nin0
  have F_intentVersion_b22 : Fld Z T64.heap b22 "com/example/leasehold/leasehold/LeaseRequest" "intentVersion" "Ljava/lang/String;" (.ref r15) := F_intentVersion_b22.keep K64 nin0
  have F_hostId_b22 : Fld Z T64.heap b22 "com/example/leasehold/leasehold/LeaseRequest" "hostId" "Ljava/lang/String;" (.ref r19) := F_hostId_b22.keep K64 nin0
  have F_pid_b22 : Fld Z T64.heap b22 "com/example/leasehold/leasehold/LeaseRequest" "pid" "J" (.long p5) := F_pid_b22.keep K64 nin0
  have F_ttlSeconds_b22 : Fld Z T64.heap b22 "com/example/leasehold/leasehold/LeaseRequest" "ttlSeconds" "J" (.long (if (1 : Int64) < p6 then p6 else (1 : Int64))) := F_ttlSeconds_b22.keep K64 nin0
  have Zs65 : n0 ≤ T64.heap.size := Nat.le_trans Zs44 K64.1
  have hk65 : T43.heap.size ≤ T64.heap.size := Nat.le_trans (Nat.le_refl _) K64.1
  have KC65 : Keep h0 T64.heap [] := KC44.trans K64 all0
  have ner64lt63_0 : aI ≠ r64 := Nat.ne_of_lt (Nat.lt_of_lt_of_le lt63_0 sr64)
  have net64lt63_0 : aI ≠ t64 := Nat.ne_of_lt (Nat.lt_of_lt_of_le lt63_0 st_64)
  have ner64lt63_1 : v0 ≠ r64 := Nat.ne_of_lt (Nat.lt_of_lt_of_le lt63_1 sr64)
  have net64lt63_1 : v0 ≠ t64 := Nat.ne_of_lt (Nat.lt_of_lt_of_le lt63_1 st_64)
  have ner64lt63_2 : v1 ≠ r64 := Nat.ne_of_lt (Nat.lt_of_lt_of_le lt63_2 sr64)
  have net64lt63_2 : v1 ≠ t64 := Nat.ne_of_lt (Nat.lt_of_lt_of_le lt63_2 st_64)
  have ner64lt63_3 : v2 ≠ r64 := Nat.ne_of_lt (Nat.lt_of_lt_of_le lt63_3 sr64)
  have net64lt63_3 : v2 ≠ t64 := Nat.ne_of_lt (Nat.lt_of_lt_of_le lt63_3 st_64)
  have ner64lt63_4 : v3 ≠ r64 := Nat.ne_of_lt (Nat.lt_of_lt_of_le lt63_4 sr64)
  have net64lt63_4 : v3 ≠ t64 := Nat.ne_of_lt (Nat.lt_of_lt_of_le lt63_4 st_64)
  have ner64lt63_5 : r3 ≠ r64 := Nat.ne_of_lt (Nat.lt_of_lt_of_le lt63_5 sr64)
  have net64lt63_5 : r3 ≠ t64 := Nat.ne_of_lt (Nat.lt_of_lt_of_le lt63_5 st_64)
  have ner64lt63_6 : t3 ≠ r64 := Nat.ne_of_lt (Nat.lt_of_lt_of_le lt63_6 sr64)
  have net64lt63_6 : t3 ≠ t64 := Nat.ne_of_lt (Nat.lt_of_lt_of_le lt63_6 st_64)
  have ner64lt63_7 : r7 ≠ r64 := Nat.ne_of_lt (Nat.lt_of_lt_of_le lt63_7 sr64)
  have net64lt63_7 : r7 ≠ t64 := Nat.ne_of_lt (Nat.lt_of_lt_of_le lt63_7 st_64)
  have ner64lt63_8 : t7 ≠ r64 := Nat.ne_of_lt (Nat.lt_of_lt_of_le lt63_8 sr64)
  have net64lt63_8 : t7 ≠ t64 := Nat.ne_of_lt (Nat.lt_of_lt_of_le lt63_8 st_64)
  have ner64lt63_9 : r11 ≠ r64 := Nat.ne_of_lt (Nat.lt_of_lt_of_le lt63_9 sr64)
  have net64lt63_9 : r11 ≠ t64 := Nat.ne_of_lt (Nat.lt_of_lt_of_le lt63_9 st_64)
  have ner64lt63_10 : t11 ≠ r64 := Nat.ne_of_lt (Nat.lt_of_lt_of_le lt63_10 sr64)
  have net64lt63_10 : t11 ≠ t64 := Nat.ne_of_lt (Nat.lt_of_lt_of_le lt63_10 st_64)
  have ner64lt63_11 : r15 ≠ r64 := Nat.ne_of_lt (Nat.lt_of_lt_of_le lt63_11 sr64)
  have net64lt63_11 : r15 ≠ t64 := Nat.ne_of_lt (Nat.lt_of_lt_of_le lt63_11 st_64)
  have ner64lt63_12 : t15 ≠ r64 := Nat.ne_of_lt (Nat.lt_of_lt_of_le lt63_12 sr64)
  have net64lt63_12 : t15 ≠ t64 := Nat.ne_of_lt (Nat.lt_of_lt_of_le lt63_12 st_64)
  have ner64lt63_13 : r19 ≠ r64 := Nat.ne_of_lt (Nat.lt_of_lt_of_le lt63_13 sr64)
  have net64lt63_13 : r19 ≠ t64 := Nat.ne_of_lt (Nat.lt_of_lt_of_le lt63_13 st_64)
  have ner64lt63_14 : t19 ≠ r64 := Nat.ne_of_lt (Nat.lt_of_lt_of_le lt63_14 sr64)
  have net64lt63_14 : t19 ≠ t64 := Nat.ne_of_lt (Nat.lt_of_lt_of_le lt63_14 st_64)
  have ner64lt63_15 : b22 ≠ r64 := Nat.ne_of_lt (Nat.lt_of_lt_of_le lt63_15 sr64)
  have net64lt63_15 : b22 ≠ t64 := Nat.ne_of_lt (Nat.lt_of_lt_of_le lt63_15 st_64)
  have szr64 : h0.size ≤ r64 := Nat.le_trans KC44.1 sr64
  have E_r64 : Exa Z T64.heap r64 "java/lang/String" := Qe64
  have Fv_r64 : Fld Z T64.heap r64 "java/lang/String" "value" "[B" (.ref t64) := Qv64
  have Fc_r64 : Fld Z T64.heap r64 "java/lang/String" "coder" "B" (.int (0 : Int32)) := Qc64
  have V_r64 : Arv Z T64.heap t64 kk64 .byte (2 : Int32) ((([(nar .char (p1 &&& (255 : Int32)).toUInt32.toUInt16.toUInt32.toInt32), (72 : Int32)] : List Int32).map (fun c => c.toInt8.toInt32)).map Value.int) (.int (0 : Int32)) := Qa64
  have pre66 : ∀ tgt, Steps p.tables e below (T64.setTop (mkF m 138 #[.val (.int p1), .val (.int p2), .val (.int p3), .val (.int p4), .val (.long p5), .second, .val (.long p6), .second, .val (.ref r3), .val (.ref r7), .val (.ref r11), .val (.ref r15), .val (.ref r19), .val (.ref b22), .val (.ref r3), .val (.ref r7), .val (.ref r11), .val (.ref r15)] [(.ref r64), (.ref r3)])) tgt → Steps p.tables e below (s₁.setTop (entryFrame m #[(.int p1), (.int p2), (.int p3), (.int p4), (.long p5), (.long p6)] maxLocals)) tgt := by
    intro tgt kk
    refine pre62 tgt ?_
    refine st64 _ ?_
    show Steps p.tables e below (T64.setTop (mkF m 138 #[.val (.int p1), .val (.int p2), .val (.int p3), .val (.int p4), .val (.long p5), .second, .val (.long p6), .second, .val (.ref r3), .val (.ref r7), .val (.ref r11), .val (.ref r15), .val (.ref r19), .val (.ref b22), .val (.ref r3), .val (.ref r7), .val (.ref r11), .val (.ref r15)] [(.ref r64), (.ref r3)])) _
    exact kk
  have hwq67 : ∀ d ∈ StrChars.Road.wordsEq, d.before a0 Z = true := fun d hd => hw d ((by decide +kernel : ∀ d ∈ StrChars.Road.wordsEq, d ∈ tables_1) d hd)
  obtain ⟨cq68, kq68, q68a, q68b, q68c⟩ := isOf hZ rfl E_r3
  obtain ⟨_, _, ⟨T68, L68, k68, n68⟩, -, X68, ⟨Lc68, hQ68, l68, y68, z68⟩, st68⟩ := X64.virtualBack hx (y := (⟨"java/lang/String", "equals", "(Ljava/lang/Object;)Z"⟩ : MethodName)) (z := (⟨"java/lang/String", "equals", "(Ljava/lang/Object;)Z"⟩ : MethodName)) hown (mvT hZ (hw _ (List.mem_of_getElem? (i := 164) rfl))) (mvT hZ (hw _ (List.mem_of_getElem? (i := 165) rfl))) (notFace_of_selects (args := #[]) (mvT hZ (hw _ (List.mem_of_getElem? (i := 167) rfl)))) (mvT hZ (hw _ (List.mem_of_getElem? (i := 167) rfl))) (mvT hZ (hw _ (List.mem_of_getElem? (i := 166) rfl))) (by decide) (StrChars.Road.eqW (W := 0) hZ hwq67 (kI := 4) (hw _ (List.mem_of_getElem? (i := 6) rfl)) E_r3 Fv_r3 Fc_r3 V_r3 (own_cod (n := 2) rfl rfl (own_pS (own_and255 p1) (own_pS (by decide) own_p0))) (own_up (own_pS (own_and255 p1) (own_pS (by decide) own_p0))) (Nat.le_of_ble_eq_true rfl) E_r64 Fv_r64 Fc_r64 V_r64 (own_cod (n := 2) rfl rfl (own_pS (own_and255 p1) (own_pS (by decide) own_p0))) (own_up (own_pS (own_and255 p1) (own_pS (by decide) own_p0))) (Nat.le_of_ble_eq_true rfl) S_CS hz (by decide) (by decide)) q68a q68c (g := (mkF m 138 #[.val (.int p1), .val (.int p2), .val (.int p3), .val (.int p4), .val (.long p5), .second, .val (.long p6), .second, .val (.ref r3), .val (.ref r7), .val (.ref r11), .val (.ref r15), .val (.ref r19), .val (.ref b22), .val (.ref r3), .val (.ref r7), .val (.ref r11), .val (.ref r15)] [(.ref r64), (.ref r3)])) rfl (by rw [hml]; rfl) (Steps.refl _) (argsL := [(.ref r64)]) (rest := []) (lenOf pd__Ljava_lang_Object__Z rfl) rfl (by show 2 * 0 + _ ≤ _; exact Nat.le_of_eq rfl) (hb hby at_138) (fun _ _ => ⟨rfl, rfl, (by decide : 27 + 0 ≤ _), (by decide : 471 + 0 ≤ _)⟩)
  dsimp only [Pt.U, Pt.locs, Pt.cells, Pt.slots] at X68 l68 y68 z68 st68 hQ68
  subst l68 y68 z68
  have hQ68 := own_eqB hQ68
  obtain ⟨rfl, rfl, hh68⟩ := hQ68
  have N68q : Fr n0 ([] : List Loc) := Fr.nil n0
  have N68 := Fr.app N64 N68q
  have hk69 : ([(nar .char (p1 &&& (255 : Int32)).toUInt32.toUInt16.toUInt32.toInt32), (72 : Int32)] : List Int32) = [(nar .char (p1 &&& (255 : Int32)).toUInt32.toUInt16.toUInt32.toInt32), (72 : Int32)] := rfl
  have pre70 : ∀ tgt, Steps p.tables e below (T68.setTop (mkF m 149 #[.val (.int p1), .val (.int p2), .val (.int p3), .val (.int p4), .val (.long p5), .second, .val (.long p6), .second, .val (.ref r3), .val (.ref r7), .val (.ref r11), .val (.ref r15), .val (.ref r19), .val (.ref b22), .val (.ref r3), .val (.ref r7), .val (.ref r11), .val (.ref r15)] [(.int (65 : Int32)), (.int p2), (.ref r7)])) tgt → Steps p.tables e below (s₁.setTop (entryFrame m #[(.int p1), (.int p2), (.int p3), (.int p4), (.long p5), (.long p6)] maxLocals)) tgt := by
    intro tgt kk
    refine pre66 tgt ?_
    refine st68.trans ?_
    show Steps p.tables e below (T68.setTop (mkF m 141 #[.val (.int p1), .val (.int p2), .val (.int p3), .val (.int p4), .val (.long p5), .second, .val (.long p6), .second, .val (.ref r3), .val (.ref r7), .val (.ref r11), .val (.ref r15), .val (.ref r19), .val (.ref b22), .val (.ref r3), .val (.ref r7), .val (.ref r11), .val (.ref r15)] [(.int (bI (([(nar .char (p1 &&& (255 : Int32)).toUInt32.toUInt16.toUInt32.toInt32), (72 : Int32)] : List Int32) = [(nar .char (p1 &&& (255 : Int32)).toUInt32.toUInt16.toUInt32.toInt32), (72 : Int32)])))])) _
    refine XS.ifNo X68.here hx rfl (hb hby at_141) rfl (bB_eq_f hk69) ?_
    show Steps p.tables e below (T68.setTop (mkF m 144 #[.val (.int p1), .val (.int p2), .val (.int p3), .val (.int p4), .val (.long p5), .second, .val (.long p6), .second, .val (.ref r3), .val (.ref r7), .val (.ref r11), .val (.ref r15), .val (.ref r19), .val (.ref b22), .val (.ref r3), .val (.ref r7), .val (.ref r11), .val (.ref r15)] [])) _
    refine XS.aload X68.here hx rfl (hb hby at_144) rfl rfl ?_
    show Steps p.tables e below (T68.setTop (mkF m 146 #[.val (.int p1), .val (.int p2), .val (.int p3), .val (.int p4), .val (.long p5), .second, .val (.long p6), .second, .val (.ref r3), .val (.ref r7), .val (.ref r11), .val (.ref r15), .val (.ref r19), .val (.ref b22), .val (.ref r3), .val (.ref r7), .val (.ref r11), .val (.ref r15)] [(.ref r7)])) _
    refine XS.iloadN X68.here hx rfl (hb hby at_146) rfl ?_
    show Steps p.tables e below (T68.setTop (mkF m 147 #[.val (.int p1), .val (.int p2), .val (.int p3), .val (.int p4), .val (.long p5), .second, .val (.long p6), .second, .val (.ref r3), .val (.ref r7), .val (.ref r11), .val (.ref r15), .val (.ref r19), .val (.ref b22), .val (.ref r3), .val (.ref r7), .val (.ref r11), .val (.ref r15)] [(.int p2), (.ref r7)])) _
    refine XS.bipush X68.here hx rfl (hb hby at_147) ?_
    show Steps p.tables e below (T68.setTop (mkF m 149 #[.val (.int p1), .val (.int p2), .val (.int p3), .val (.int p4), .val (.long p5), .second, .val (.long p6), .second, .val (.ref r3), .val (.ref r7), .val (.ref r11), .val (.ref r15), .val (.ref r19), .val (.ref b22), .val (.ref r3), .val (.ref r7), .val (.ref r11), .val (.ref r15)] [(.int (65 : Int32)), (.int p2), (.ref r7)])) _
    exact kk
  have lt71_0 := E_I.lt
  have lt71_1 := E_HOLDER.lt
  have lt71_2 := E_ACTOR.lt
  have lt71_3 := E_INTENT.lt
  have lt71_4 := E_INTENT_VERSION.lt
  have lt71_5 := E_r3.lt
  have lt71_6 := V_r3.lt
  have lt71_7 := E_r7.lt
  have lt71_8 := V_r7.lt
  have lt71_9 := E_r11.lt
  have lt71_10 := V_r11.lt
  have lt71_11 := E_r15.lt
  have lt71_12 := V_r15.lt
  have lt71_13 := E_r19.lt
  have lt71_14 := V_r19.lt
  have lt71_15 := E_b22.lt
  have lt71_16 := E_r64.lt
  have lt71_17 := V_r64.lt
  obtain ⟨_, _, ⟨T72, L72, k72, n72⟩, -, X72, ⟨Lc72, hQ72, l72, y72, z72⟩, st72⟩ := Jvm.LawKit.callS X68 hx (y := (⟨"com/example/leasehold/leasehold/RecordedValueInPinLaw", "two", "(IC)Ljava/lang/String;"⟩ : MethodName)) hown (mvT hZ (hw _ (List.mem_of_getElem? (i := 0) rfl))) (mvT hZ (hw _ (List.mem_of_getElem? (i := 1) rfl))) (mvT hZ (hw _ (List.mem_of_getElem? (i := 2) rfl))) (mvT hZ (hw _ (List.mem_of_getElem? (i := 3) rfl))) (by decide) (backOf (W := 1) (rmTwo l Z a0 hw [] (p2) ((65 : Int32)) z0 T64.heap n0 Zs65 S_CS hz (by decide)) hZ (hw _ (List.mem_of_getElem? (i := 3) rfl)) (hw _ (List.mem_of_getElem? (i := 2) rfl)) (by decide) (by decide)) (g := (mkF m 149 #[.val (.int p1), .val (.int p2), .val (.int p3), .val (.int p4), .val (.long p5), .second, .val (.long p6), .second, .val (.ref r3), .val (.ref r7), .val (.ref r11), .val (.ref r15), .val (.ref r19), .val (.ref b22), .val (.ref r3), .val (.ref r7), .val (.ref r11), .val (.ref r15)] [(.int (65 : Int32)), (.int p2), (.ref r7)])) rfl (by rw [hml]; rfl) (argsL := [(.int p2), (.int (65 : Int32))]) (rest := [(.ref r7)]) (lenOf pd__IC_Ljava_lang_String_ rfl) rfl (by show 2 * 0 + _ ≤ _; exact Nat.le_of_eq rfl) (hb hby at_149) (fun _ _ => ⟨rfl, hh68, (by decide : 27 + 3 ≤ _), (by decide : 471 + 8 ≤ _)⟩)
  dsimp only [Pt.U, Pt.locs, Pt.cells, Pt.slots] at X72 l72 y72 z72 st72 hQ72
  subst l72 y72 z72
  obtain ⟨r72, t72, kk72, rfl, N72q, K72, gr72, sr72, gt72, st_72, Qe72, Qv72, Qc72, Qa72⟩ := hQ72
  have N72 := Fr.app N68 N72q
  have S_CS : Sta Z T72.heap "java/lang/String" "COMPACT_STRINGS" "Z" (.int z0) := own_sta_keep S_CS K72 all0
  have S_A : Sta Z T72.heap "java/lang/CharacterDataLatin1" "A" "[I" (.ref aA) := own_sta_keep S_A K72 all0
  have S_I : Sta Z T72.heap "java/lang/CharacterDataLatin1" "instance" "Ljava/lang/CharacterDataLatin1;" (.ref aI) := own_sta_keep S_I K72 all0
  have E_I : Exa Z T72.heap aI "java/lang/CharacterDataLatin1" := E_I.keep K72
  have S_HOLDER : Sta Z T72.heap "com/example/leasehold/leasehold/RecordedValue" "HOLDER" "Lcom/example/leasehold/leasehold/RecordedValue;" (.ref v0) := own_sta_keep S_HOLDER K72 all0
  have S_ACTOR : Sta Z T72.heap "com/example/leasehold/leasehold/RecordedValue" "ACTOR" "Lcom/example/leasehold/leasehold/RecordedValue;" (.ref v1) := own_sta_keep S_ACTOR K72 all0
  have S_INTENT : Sta Z T72.heap "com/example/leasehold/leasehold/RecordedValue" "INTENT" "Lcom/example/leasehold/leasehold/RecordedValue;" (.ref v2) := own_sta_keep S_INTENT K72 all0
  have S_INTENT_VERSION : Sta Z T72.heap "com/example/leasehold/leasehold/RecordedValue" "INTENT_VERSION" "Lcom/example/leasehold/leasehold/RecordedValue;" (.ref v3) := own_sta_keep S_INTENT_VERSION K72 all0
  have E_HOLDER : Exa Z T72.heap v0 "com/example/leasehold/leasehold/RecordedValue" := E_HOLDER.keep K72
  have E_ACTOR : Exa Z T72.heap v1 "com/example/leasehold/leasehold/RecordedValue" := E_ACTOR.keep K72
  have E_INTENT : Exa Z T72.heap v2 "com/example/leasehold/leasehold/RecordedValue" := E_INTENT.keep K72
  have E_INTENT_VERSION : Exa Z T72.heap v3 "com/example/leasehold/leasehold/RecordedValue" := E_INTENT_VERSION.keep K72
  have F_HOLDER : Fld Z T72.heap v0 "java/lang/Enum" "ordinal" "I" (.int (0 : Int32)) := F_HOLDER.keep K72 nin0
  have F_ACTOR : Fld Z T72.heap v1 "java/lang/Enum" "ordinal" "I" (.int (1 : Int32)) := F_ACTOR.keep K72 nin0
  have F_INTENT : Fld Z T72.heap v2 "java/lang/Enum" "ordinal" "I" (.int (2 : Int32)) := F_INTENT.keep K72 nin0
  have F_INTENT_VERSION : Fld Z T72.heap v3 "java/lang/Enum" "ordinal" "I" (.int (3 : Int32)) := F_INTENT_VERSION.keep K72 nin0
  have E_r3 : Exa Z T72.heap r3 "java/lang/String" := E_r3.keep K72
  have Fv_r3 : Fld Z T72.heap r3 "java/lang/String" "value" "[B" (.ref t3) := Fv_r3.keep K72 nin0
  have Fc_r3 : Fld Z T72.heap r3 "java/lang/String" "coder" "B" (.int (0 : Int32)) := Fc_r3.keep K72 nin0
  have V_r3 : Arv Z T72.heap t3 kk3 .byte (2 : Int32) ((([(nar .char (p1 &&& (255 : Int32)).toUInt32.toUInt16.toUInt32.toInt32), (72 : Int32)] : List Int32).map (fun c => c.toInt8.toInt32)).map Value.int) (.int (0 : Int32)) := V_r3.keep K72 nin0
  have E_r7 : Exa Z T72.heap r7 "java/lang/String" := E_r7.keep K72
  have Fv_r7 : Fld Z T72.heap r7 "java/lang/String" "value" "[B" (.ref t7) := Fv_r7.keep K72 nin0
  have Fc_r7 : Fld Z T72.heap r7 "java/lang/String" "coder" "B" (.int (0 : Int32)) := Fc_r7.keep K72 nin0
  have V_r7 : Arv Z T72.heap t7 kk7 .byte (2 : Int32) ((([(nar .char (p2 &&& (255 : Int32)).toUInt32.toUInt16.toUInt32.toInt32), (65 : Int32)] : List Int32).map (fun c => c.toInt8.toInt32)).map Value.int) (.int (0 : Int32)) := V_r7.keep K72 nin0
  have E_r11 : Exa Z T72.heap r11 "java/lang/String" := E_r11.keep K72
  have Fv_r11 : Fld Z T72.heap r11 "java/lang/String" "value" "[B" (.ref t11) := Fv_r11.keep K72 nin0
  have Fc_r11 : Fld Z T72.heap r11 "java/lang/String" "coder" "B" (.int (0 : Int32)) := Fc_r11.keep K72 nin0
  have V_r11 : Arv Z T72.heap t11 kk11 .byte (2 : Int32) ((([(nar .char (p3 &&& (255 : Int32)).toUInt32.toUInt16.toUInt32.toInt32), (73 : Int32)] : List Int32).map (fun c => c.toInt8.toInt32)).map Value.int) (.int (0 : Int32)) := V_r11.keep K72 nin0
  have E_r15 : Exa Z T72.heap r15 "java/lang/String" := E_r15.keep K72
  have Fv_r15 : Fld Z T72.heap r15 "java/lang/String" "value" "[B" (.ref t15) := Fv_r15.keep K72 nin0
  have Fc_r15 : Fld Z T72.heap r15 "java/lang/String" "coder" "B" (.int (0 : Int32)) := Fc_r15.keep K72 nin0
  have V_r15 : Arv Z T72.heap t15 kk15 .byte (2 : Int32) ((([(nar .char (p4 &&& (255 : Int32)).toUInt32.toUInt16.toUInt32.toInt32), (86 : Int32)] : List Int32).map (fun c => c.toInt8.toInt32)).map Value.int) (.int (0 : Int32)) := V_r15.keep K72 nin0
  have E_r19 : Exa Z T72.heap r19 "java/lang/String" := E_r19.keep K72
  have Fv_r19 : Fld Z T72.heap r19 "java/lang/String" "value" "[B" (.ref t19) := Fv_r19.keep K72 nin0
  have Fc_r19 : Fld Z T72.heap r19 "java/lang/String" "coder" "B" (.int (0 : Int32)) := Fc_r19.keep K72 nin0
  have V_r19 : Arv Z T72.heap t19 kk19 .byte (2 : Int32) ((([(nar .char (((p1.toUInt32 >>> ((8 : Int32) &&& 31).toUInt32).toInt32) &&& (255 : Int32)).toUInt32.toUInt16.toUInt32.toInt32), (83 : Int32)] : List Int32).map (fun c => c.toInt8.toInt32)).map Value.int) (.int (0 : Int32)) := V_r19.keep K72 nin0
  have E_b22 : Exa Z T72.heap b22 "com/example/leasehold/leasehold/LeaseRequest" := E_b22.keep K72
  have F_holder_b22 : Fld Z T72.heap b22 "com/example/leasehold/leasehold/LeaseRequest" "holder" "Ljava/lang/String;" (.ref r3) := F_holder_b22.keep K72 nin0
  have F_actor_b22 : Fld Z T72.heap b22 "com/example/leasehold/leasehold/LeaseRequest" "actor" "Ljava/lang/String;" (.ref r7) := F_actor_b22.keep K72 nin0
  have F_intent_b22 : Fld Z T72.heap b22 "com/example/leasehold/leasehold/LeaseRequest" "intent" "Ljava/lang/String;" (.ref r11) := F_intent_b22.keep K72 nin0
  have F_intentVersion_b22 : Fld Z T72.heap b22 "com/example/leasehold/leasehold/LeaseRequest" "intentVersion" "Ljava/lang/String;" (.ref r15) := F_intentVersion_b22.keep K72 nin0
  have F_hostId_b22 : Fld Z T72.heap b22 "com/example/leasehold/leasehold/LeaseRequest" "hostId" "Ljava/lang/String;" (.ref r19) := F_hostId_b22.keep K72 nin0
  have F_pid_b22 : Fld Z T72.heap b22 "com/example/leasehold/leasehold/LeaseRequest" "pid" "J" (.long p5) := F_pid_b22.keep K72 nin0
  have F_ttlSeconds_b22 : Fld Z T72.heap b22 "com/example/leasehold/leasehold/LeaseRequest" "ttlSeconds" "J" (.long (if (1 : Int64) < p6 then p6 else (1 : Int64))) := F_ttlSeconds_b22.keep K72 nin0
  have E_r64 : Exa Z T72.heap r64 "java/lang/String" := E_r64.keep K72
  have Fv_r64 : Fld Z T72.heap r64 "java/lang/String" "value" "[B" (.ref t64) := Fv_r64.keep K72 nin0
  have Fc_r64 : Fld Z T72.heap r64 "java/lang/String" "coder" "B" (.int (0 : Int32)) := Fc_r64.keep K72 nin0
  have V_r64 : Arv Z T72.heap t64 kk64 .byte (2 : Int32) ((([(nar .char (p1 &&& (255 : Int32)).toUInt32.toUInt16.toUInt32.toInt32), (72 : Int32)] : List Int32).map (fun c => c.toInt8.toInt32)).map Value.int) (.int (0 : Int32)) := V_r64.keep K72 nin0
  have Zs73 : n0 ≤ T72.heap.size := Nat.le_trans Zs65 K72.1
  have hk73 : T43.heap.size ≤ T72.heap.size := Nat.le_trans hk65 K72.1
  have KC73 : Keep h0 T72.heap [] := KC65.trans K72 all0
  have ner72lt71_0 : aI ≠ r72 := Nat.ne_of_lt (Nat.lt_of_lt_of_le lt71_0 sr72)
  have net72lt71_0 : aI ≠ t72 := Nat.ne_of_lt (Nat.lt_of_lt_of_le lt71_0 st_72)
  have ner72lt71_1 : v0 ≠ r72 := Nat.ne_of_lt (Nat.lt_of_lt_of_le lt71_1 sr72)
  have net72lt71_1 : v0 ≠ t72 := Nat.ne_of_lt (Nat.lt_of_lt_of_le lt71_1 st_72)
  have ner72lt71_2 : v1 ≠ r72 := Nat.ne_of_lt (Nat.lt_of_lt_of_le lt71_2 sr72)
  have net72lt71_2 : v1 ≠ t72 := Nat.ne_of_lt (Nat.lt_of_lt_of_le lt71_2 st_72)
  have ner72lt71_3 : v2 ≠ r72 := Nat.ne_of_lt (Nat.lt_of_lt_of_le lt71_3 sr72)
  have net72lt71_3 : v2 ≠ t72 := Nat.ne_of_lt (Nat.lt_of_lt_of_le lt71_3 st_72)
  have ner72lt71_4 : v3 ≠ r72 := Nat.ne_of_lt (Nat.lt_of_lt_of_le lt71_4 sr72)
  have net72lt71_4 : v3 ≠ t72 := Nat.ne_of_lt (Nat.lt_of_lt_of_le lt71_4 st_72)
  have ner72lt71_5 : r3 ≠ r72 := Nat.ne_of_lt (Nat.lt_of_lt_of_le lt71_5 sr72)
  have net72lt71_5 : r3 ≠ t72 := Nat.ne_of_lt (Nat.lt_of_lt_of_le lt71_5 st_72)
  have ner72lt71_6 : t3 ≠ r72 := Nat.ne_of_lt (Nat.lt_of_lt_of_le lt71_6 sr72)
  have net72lt71_6 : t3 ≠ t72 := Nat.ne_of_lt (Nat.lt_of_lt_of_le lt71_6 st_72)
  have ner72lt71_7 : r7 ≠ r72 := Nat.ne_of_lt (Nat.lt_of_lt_of_le lt71_7 sr72)
  have net72lt71_7 : r7 ≠ t72 := Nat.ne_of_lt (Nat.lt_of_lt_of_le lt71_7 st_72)
  have ner72lt71_8 : t7 ≠ r72 := Nat.ne_of_lt (Nat.lt_of_lt_of_le lt71_8 sr72)
  have net72lt71_8 : t7 ≠ t72 := Nat.ne_of_lt (Nat.lt_of_lt_of_le lt71_8 st_72)
  have ner72lt71_9 : r11 ≠ r72 := Nat.ne_of_lt (Nat.lt_of_lt_of_le lt71_9 sr72)
  have net72lt71_9 : r11 ≠ t72 := Nat.ne_of_lt (Nat.lt_of_lt_of_le lt71_9 st_72)
  have ner72lt71_10 : t11 ≠ r72 := Nat.ne_of_lt (Nat.lt_of_lt_of_le lt71_10 sr72)
  have net72lt71_10 : t11 ≠ t72 := Nat.ne_of_lt (Nat.lt_of_lt_of_le lt71_10 st_72)
  have ner72lt71_11 : r15 ≠ r72 := Nat.ne_of_lt (Nat.lt_of_lt_of_le lt71_11 sr72)
  have net72lt71_11 : r15 ≠ t72 := Nat.ne_of_lt (Nat.lt_of_lt_of_le lt71_11 st_72)
  have ner72lt71_12 : t15 ≠ r72 := Nat.ne_of_lt (Nat.lt_of_lt_of_le lt71_12 sr72)
  have net72lt71_12 : t15 ≠ t72 := Nat.ne_of_lt (Nat.lt_of_lt_of_le lt71_12 st_72)
  have ner72lt71_13 : r19 ≠ r72 := Nat.ne_of_lt (Nat.lt_of_lt_of_le lt71_13 sr72)
  have net72lt71_13 : r19 ≠ t72 := Nat.ne_of_lt (Nat.lt_of_lt_of_le lt71_13 st_72)
  have ner72lt71_14 : t19 ≠ r72 := Nat.ne_of_lt (Nat.lt_of_lt_of_le lt71_14 sr72)
  have net72lt71_14 : t19 ≠ t72 := Nat.ne_of_lt (Nat.lt_of_lt_of_le lt71_14 st_72)
  have ner72lt71_15 : b22 ≠ r72 := Nat.ne_of_lt (Nat.lt_of_lt_of_le lt71_15 sr72)
  have net72lt71_15 : b22 ≠ t72 := Nat.ne_of_lt (Nat.lt_of_lt_of_le lt71_15 st_72)
  have ner72lt71_16 : r64 ≠ r72 := Nat.ne_of_lt (Nat.lt_of_lt_of_le lt71_16 sr72)
  have net72lt71_16 : r64 ≠ t72 := Nat.ne_of_lt (Nat.lt_of_lt_of_le lt71_16 st_72)
  have ner72lt71_17 : t64 ≠ r72 := Nat.ne_of_lt (Nat.lt_of_lt_of_le lt71_17 sr72)
  have net72lt71_17 : t64 ≠ t72 := Nat.ne_of_lt (Nat.lt_of_lt_of_le lt71_17 st_72)
  have szr72 : h0.size ≤ r72 := Nat.le_trans KC65.1 sr72
  have E_r72 : Exa Z T72.heap r72 "java/lang/String" := Qe72
  have Fv_r72 : Fld Z T72.heap r72 "java/lang/String" "value" "[B" (.ref t72) := Qv72
  have Fc_r72 : Fld Z T72.heap r72 "java/lang/String" "coder" "B" (.int (0 : Int32)) := Qc72
  have V_r72 : Arv Z T72.heap t72 kk72 .byte (2 : Int32) ((([(nar .char (p2 &&& (255 : Int32)).toUInt32.toUInt16.toUInt32.toInt32), (65 : Int32)] : List Int32).map (fun c => c.toInt8.toInt32)).map Value.int) (.int (0 : Int32)) := Qa72
  have pre74 : ∀ tgt, Steps p.tables e below (T72.setTop (mkF m 152 #[.val (.int p1), .val (.int p2), .val (.int p3), .val (.int p4), .val (.long p5), .second, .val (.long p6), .second, .val (.ref r3), .val (.ref r7), .val (.ref r11), .val (.ref r15), .val (.ref r19), .val (.ref b22), .val (.ref r3), .val (.ref r7), .val (.ref r11), .val (.ref r15)] [(.ref r72), (.ref r7)])) tgt → Steps p.tables e below (s₁.setTop (entryFrame m #[(.int p1), (.int p2), (.int p3), (.int p4), (.long p5), (.long p6)] maxLocals)) tgt := by
    intro tgt kk
    refine pre70 tgt ?_
    refine st72 _ ?_
    show Steps p.tables e below (T72.setTop (mkF m 152 #[.val (.int p1), .val (.int p2), .val (.int p3), .val (.int p4), .val (.long p5), .second, .val (.long p6), .second, .val (.ref r3), .val (.ref r7), .val (.ref r11), .val (.ref r15), .val (.ref r19), .val (.ref b22), .val (.ref r3), .val (.ref r7), .val (.ref r11), .val (.ref r15)] [(.ref r72), (.ref r7)])) _
    exact kk
  have hwq75 : ∀ d ∈ StrChars.Road.wordsEq, d.before a0 Z = true := fun d hd => hw d ((by decide +kernel : ∀ d ∈ StrChars.Road.wordsEq, d ∈ tables_1) d hd)
  obtain ⟨cq76, kq76, q76a, q76b, q76c⟩ := isOf hZ rfl E_r7
  obtain ⟨_, _, ⟨T76, L76, k76, n76⟩, -, X76, ⟨Lc76, hQ76, l76, y76, z76⟩, st76⟩ := X72.virtualBack hx (y := (⟨"java/lang/String", "equals", "(Ljava/lang/Object;)Z"⟩ : MethodName)) (z := (⟨"java/lang/String", "equals", "(Ljava/lang/Object;)Z"⟩ : MethodName)) hown (mvT hZ (hw _ (List.mem_of_getElem? (i := 164) rfl))) (mvT hZ (hw _ (List.mem_of_getElem? (i := 165) rfl))) (notFace_of_selects (args := #[]) (mvT hZ (hw _ (List.mem_of_getElem? (i := 167) rfl)))) (mvT hZ (hw _ (List.mem_of_getElem? (i := 167) rfl))) (mvT hZ (hw _ (List.mem_of_getElem? (i := 166) rfl))) (by decide) (StrChars.Road.eqW (W := 0) hZ hwq75 (kI := 4) (hw _ (List.mem_of_getElem? (i := 6) rfl)) E_r7 Fv_r7 Fc_r7 V_r7 (own_cod (n := 2) rfl rfl (own_pS (own_and255 p2) (own_pS (by decide) own_p0))) (own_up (own_pS (own_and255 p2) (own_pS (by decide) own_p0))) (Nat.le_of_ble_eq_true rfl) E_r72 Fv_r72 Fc_r72 V_r72 (own_cod (n := 2) rfl rfl (own_pS (own_and255 p2) (own_pS (by decide) own_p0))) (own_up (own_pS (own_and255 p2) (own_pS (by decide) own_p0))) (Nat.le_of_ble_eq_true rfl) S_CS hz (by decide) (by decide)) q76a q76c (g := (mkF m 152 #[.val (.int p1), .val (.int p2), .val (.int p3), .val (.int p4), .val (.long p5), .second, .val (.long p6), .second, .val (.ref r3), .val (.ref r7), .val (.ref r11), .val (.ref r15), .val (.ref r19), .val (.ref b22), .val (.ref r3), .val (.ref r7), .val (.ref r11), .val (.ref r15)] [(.ref r72), (.ref r7)])) rfl (by rw [hml]; rfl) (Steps.refl _) (argsL := [(.ref r72)]) (rest := []) (lenOf pd__Ljava_lang_Object__Z rfl) rfl (by show 2 * 0 + _ ≤ _; exact Nat.le_of_eq rfl) (hb hby at_152) (fun _ _ => ⟨rfl, rfl, (by decide : 30 + 0 ≤ _), (by decide : 479 + 0 ≤ _)⟩)
  dsimp only [Pt.U, Pt.locs, Pt.cells, Pt.slots] at X76 l76 y76 z76 st76 hQ76
  subst l76 y76 z76
  have hQ76 := own_eqB hQ76
  obtain ⟨rfl, rfl, hh76⟩ := hQ76
  have N76q : Fr n0 ([] : List Loc) := Fr.nil n0
  have N76 := Fr.app N72 N76q
  have hk77 : ([(nar .char (p2 &&& (255 : Int32)).toUInt32.toUInt16.toUInt32.toInt32), (65 : Int32)] : List Int32) = [(nar .char (p2 &&& (255 : Int32)).toUInt32.toUInt16.toUInt32.toInt32), (65 : Int32)] := rfl
  have pre78 : ∀ tgt, Steps p.tables e below (T76.setTop (mkF m 163 #[.val (.int p1), .val (.int p2), .val (.int p3), .val (.int p4), .val (.long p5), .second, .val (.long p6), .second, .val (.ref r3), .val (.ref r7), .val (.ref r11), .val (.ref r15), .val (.ref r19), .val (.ref b22), .val (.ref r3), .val (.ref r7), .val (.ref r11), .val (.ref r15)] [(.int (73 : Int32)), (.int p3), (.ref r11)])) tgt → Steps p.tables e below (s₁.setTop (entryFrame m #[(.int p1), (.int p2), (.int p3), (.int p4), (.long p5), (.long p6)] maxLocals)) tgt := by
    intro tgt kk
    refine pre74 tgt ?_
    refine st76.trans ?_
    show Steps p.tables e below (T76.setTop (mkF m 155 #[.val (.int p1), .val (.int p2), .val (.int p3), .val (.int p4), .val (.long p5), .second, .val (.long p6), .second, .val (.ref r3), .val (.ref r7), .val (.ref r11), .val (.ref r15), .val (.ref r19), .val (.ref b22), .val (.ref r3), .val (.ref r7), .val (.ref r11), .val (.ref r15)] [(.int (bI (([(nar .char (p2 &&& (255 : Int32)).toUInt32.toUInt16.toUInt32.toInt32), (65 : Int32)] : List Int32) = [(nar .char (p2 &&& (255 : Int32)).toUInt32.toUInt16.toUInt32.toInt32), (65 : Int32)])))])) _
    refine XS.ifNo X76.here hx rfl (hb hby at_155) rfl (bB_eq_f hk77) ?_
    show Steps p.tables e below (T76.setTop (mkF m 158 #[.val (.int p1), .val (.int p2), .val (.int p3), .val (.int p4), .val (.long p5), .second, .val (.long p6), .second, .val (.ref r3), .val (.ref r7), .val (.ref r11), .val (.ref r15), .val (.ref r19), .val (.ref b22), .val (.ref r3), .val (.ref r7), .val (.ref r11), .val (.ref r15)] [])) _
    refine XS.aload X76.here hx rfl (hb hby at_158) rfl rfl ?_
    show Steps p.tables e below (T76.setTop (mkF m 160 #[.val (.int p1), .val (.int p2), .val (.int p3), .val (.int p4), .val (.long p5), .second, .val (.long p6), .second, .val (.ref r3), .val (.ref r7), .val (.ref r11), .val (.ref r15), .val (.ref r19), .val (.ref b22), .val (.ref r3), .val (.ref r7), .val (.ref r11), .val (.ref r15)] [(.ref r11)])) _
    refine XS.iloadN X76.here hx rfl (hb hby at_160) rfl ?_
    show Steps p.tables e below (T76.setTop (mkF m 161 #[.val (.int p1), .val (.int p2), .val (.int p3), .val (.int p4), .val (.long p5), .second, .val (.long p6), .second, .val (.ref r3), .val (.ref r7), .val (.ref r11), .val (.ref r15), .val (.ref r19), .val (.ref b22), .val (.ref r3), .val (.ref r7), .val (.ref r11), .val (.ref r15)] [(.int p3), (.ref r11)])) _
    refine XS.bipush X76.here hx rfl (hb hby at_161) ?_
    show Steps p.tables e below (T76.setTop (mkF m 163 #[.val (.int p1), .val (.int p2), .val (.int p3), .val (.int p4), .val (.long p5), .second, .val (.long p6), .second, .val (.ref r3), .val (.ref r7), .val (.ref r11), .val (.ref r15), .val (.ref r19), .val (.ref b22), .val (.ref r3), .val (.ref r7), .val (.ref r11), .val (.ref r15)] [(.int (73 : Int32)), (.int p3), (.ref r11)])) _
    exact kk
  have lt79_0 := E_I.lt
  have lt79_1 := E_HOLDER.lt
  have lt79_2 := E_ACTOR.lt
  have lt79_3 := E_INTENT.lt
  have lt79_4 := E_INTENT_VERSION.lt
  have lt79_5 := E_r3.lt
  have lt79_6 := V_r3.lt
  have lt79_7 := E_r7.lt
  have lt79_8 := V_r7.lt
  have lt79_9 := E_r11.lt
  have lt79_10 := V_r11.lt
  have lt79_11 := E_r15.lt
  have lt79_12 := V_r15.lt
  have lt79_13 := E_r19.lt
  have lt79_14 := V_r19.lt
  have lt79_15 := E_b22.lt
  have lt79_16 := E_r64.lt
  have lt79_17 := V_r64.lt
  have lt79_18 := E_r72.lt
  have lt79_19 := V_r72.lt
  obtain ⟨_, _, ⟨T80, L80, k80, n80⟩, -, X80, ⟨Lc80, hQ80, l80, y80, z80⟩, st80⟩ := Jvm.LawKit.callS X76 hx (y := (⟨"com/example/leasehold/leasehold/RecordedValueInPinLaw", "two", "(IC)Ljava/lang/String;"⟩ : MethodName)) hown (mvT hZ (hw _ (List.mem_of_getElem? (i := 0) rfl))) (mvT hZ (hw _ (List.mem_of_getElem? (i := 1) rfl))) (mvT hZ (hw _ (List.mem_of_getElem? (i := 2) rfl))) (mvT hZ (hw _ (List.mem_of_getElem? (i := 3) rfl))) (by decide) (backOf (W := 1) (rmTwo l Z a0 hw [] (p3) ((73 : Int32)) z0 T72.heap n0 Zs73 S_CS hz (by decide)) hZ (hw _ (List.mem_of_getElem? (i := 3) rfl)) (hw _ (List.mem_of_getElem? (i := 2) rfl)) (by decide) (by decide)) (g := (mkF m 163 #[.val (.int p1), .val (.int p2), .val (.int p3), .val (.int p4), .val (.long p5), .second, .val (.long p6), .second, .val (.ref r3), .val (.ref r7), .val (.ref r11), .val (.ref r15), .val (.ref r19), .val (.ref b22), .val (.ref r3), .val (.ref r7), .val (.ref r11), .val (.ref r15)] [(.int (73 : Int32)), (.int p3), (.ref r11)])) rfl (by rw [hml]; rfl) (argsL := [(.int p3), (.int (73 : Int32))]) (rest := [(.ref r11)]) (lenOf pd__IC_Ljava_lang_String_ rfl) rfl (by show 2 * 0 + _ ≤ _; exact Nat.le_of_eq rfl) (hb hby at_163) (fun _ _ => ⟨rfl, hh76, (by decide : 30 + 3 ≤ _), (by decide : 479 + 8 ≤ _)⟩)
  dsimp only [Pt.U, Pt.locs, Pt.cells, Pt.slots] at X80 l80 y80 z80 st80 hQ80
  subst l80 y80 z80
  obtain ⟨r80, t80, kk80, rfl, N80q, K80, gr80, sr80, gt80, st_80, Qe80, Qv80, Qc80, Qa80⟩ := hQ80
  have N80 := Fr.app N76 N80q
  have S_CS : Sta Z T80.heap "java/lang/String" "COMPACT_STRINGS" "Z" (.int z0) := own_sta_keep S_CS K80 all0
  have S_A : Sta Z T80.heap "java/lang/CharacterDataLatin1" "A" "[I" (.ref aA) := own_sta_keep S_A K80 all0
  have S_I : Sta Z T80.heap "java/lang/CharacterDataLatin1" "instance" "Ljava/lang/CharacterDataLatin1;" (.ref aI) := own_sta_keep S_I K80 all0
  have E_I : Exa Z T80.heap aI "java/lang/CharacterDataLatin1" := E_I.keep K80
  have S_HOLDER : Sta Z T80.heap "com/example/leasehold/leasehold/RecordedValue" "HOLDER" "Lcom/example/leasehold/leasehold/RecordedValue;" (.ref v0) := own_sta_keep S_HOLDER K80 all0
  have S_ACTOR : Sta Z T80.heap "com/example/leasehold/leasehold/RecordedValue" "ACTOR" "Lcom/example/leasehold/leasehold/RecordedValue;" (.ref v1) := own_sta_keep S_ACTOR K80 all0
  have S_INTENT : Sta Z T80.heap "com/example/leasehold/leasehold/RecordedValue" "INTENT" "Lcom/example/leasehold/leasehold/RecordedValue;" (.ref v2) := own_sta_keep S_INTENT K80 all0
  have S_INTENT_VERSION : Sta Z T80.heap "com/example/leasehold/leasehold/RecordedValue" "INTENT_VERSION" "Lcom/example/leasehold/leasehold/RecordedValue;" (.ref v3) := own_sta_keep S_INTENT_VERSION K80 all0
  have E_HOLDER : Exa Z T80.heap v0 "com/example/leasehold/leasehold/RecordedValue" := E_HOLDER.keep K80
  have E_ACTOR : Exa Z T80.heap v1 "com/example/leasehold/leasehold/RecordedValue" := E_ACTOR.keep K80
  have E_INTENT : Exa Z T80.heap v2 "com/example/leasehold/leasehold/RecordedValue" := E_INTENT.keep K80
  have E_INTENT_VERSION : Exa Z T80.heap v3 "com/example/leasehold/leasehold/RecordedValue" := E_INTENT_VERSION.keep K80
  have F_HOLDER : Fld Z T80.heap v0 "java/lang/Enum" "ordinal" "I" (.int (0 : Int32)) := F_HOLDER.keep K80 nin0
  have F_ACTOR : Fld Z T80.heap v1 "java/lang/Enum" "ordinal" "I" (.int (1 : Int32)) := F_ACTOR.keep K80 nin0
  have F_INTENT : Fld Z T80.heap v2 "java/lang/Enum" "ordinal" "I" (.int (2 : Int32)) := F_INTENT.keep K80 nin0
  have F_INTENT_VERSION : Fld Z T80.heap v3 "java/lang/Enum" "ordinal" "I" (.int (3 : Int32)) := F_INTENT_VERSION.keep K80 nin0
  have E_r3 : Exa Z T80.heap r3 "java/lang/String" := E_r3.keep K80
  have Fv_r3 : Fld Z T80.heap r3 "java/lang/String" "value" "[B" (.ref t3) := Fv_r3.keep K80 nin0
  have Fc_r3 : Fld Z T80.heap r3 "java/lang/String" "coder" "B" (.int (0 : Int32)) := Fc_r3.keep K80 nin0
  have V_r3 : Arv Z T80.heap t3 kk3 .byte (2 : Int32) ((([(nar .char (p1 &&& (255 : Int32)).toUInt32.toUInt16.toUInt32.toInt32), (72 : Int32)] : List Int32).map (fun c => c.toInt8.toInt32)).map Value.int) (.int (0 : Int32)) := V_r3.keep K80 nin0
  have E_r7 : Exa Z T80.heap r7 "java/lang/String" := E_r7.keep K80
  have Fv_r7 : Fld Z T80.heap r7 "java/lang/String" "value" "[B" (.ref t7) := Fv_r7.keep K80 nin0
  have Fc_r7 : Fld Z T80.heap r7 "java/lang/String" "coder" "B" (.int (0 : Int32)) := Fc_r7.keep K80 nin0
  have V_r7 : Arv Z T80.heap t7 kk7 .byte (2 : Int32) ((([(nar .char (p2 &&& (255 : Int32)).toUInt32.toUInt16.toUInt32.toInt32), (65 : Int32)] : List Int32).map (fun c => c.toInt8.toInt32)).map Value.int) (.int (0 : Int32)) := V_r7.keep K80 nin0
  have E_r11 : Exa Z T80.heap r11 "java/lang/String" := E_r11.keep K80
  have Fv_r11 : Fld Z T80.heap r11 "java/lang/String" "value" "[B" (.ref t11) := Fv_r11.keep K80 nin0
  have Fc_r11 : Fld Z T80.heap r11 "java/lang/String" "coder" "B" (.int (0 : Int32)) := Fc_r11.keep K80 nin0
  have V_r11 : Arv Z T80.heap t11 kk11 .byte (2 : Int32) ((([(nar .char (p3 &&& (255 : Int32)).toUInt32.toUInt16.toUInt32.toInt32), (73 : Int32)] : List Int32).map (fun c => c.toInt8.toInt32)).map Value.int) (.int (0 : Int32)) := V_r11.keep K80 nin0
  have E_r15 : Exa Z T80.heap r15 "java/lang/String" := E_r15.keep K80
  have Fv_r15 : Fld Z T80.heap r15 "java/lang/String" "value" "[B" (.ref t15) := Fv_r15.keep K80 nin0
  have Fc_r15 : Fld Z T80.heap r15 "java/lang/String" "coder" "B" (.int (0 : Int32)) := Fc_r15.keep K80 nin0
  have V_r15 : Arv Z T80.heap t15 kk15 .byte (2 : Int32) ((([(nar .char (p4 &&& (255 : Int32)).toUInt32.toUInt16.toUInt32.toInt32), (86 : Int32)] : List Int32).map (fun c => c.toInt8.toInt32)).map Value.int) (.int (0 : Int32)) := V_r15.keep K80 nin0
  have E_r19 : Exa Z T80.heap r19 "java/lang/String" := E_r19.keep K80
  have Fv_r19 : Fld Z T80.heap r19 "java/lang/String" "value" "[B" (.ref t19) := Fv_r19.keep K80 nin0
  have Fc_r19 : Fld Z T80.heap r19 "java/lang/String" "coder" "B" (.int (0 : Int32)) := Fc_r19.keep K80 nin0
  have V_r19 : Arv Z T80.heap t19 kk19 .byte (2 : Int32) ((([(nar .char (((p1.toUInt32 >>> ((8 : Int32) &&& 31).toUInt32).toInt32) &&& (255 : Int32)).toUInt32.toUInt16.toUInt32.toInt32), (83 : Int32)] : List Int32).map (fun c => c.toInt8.toInt32)).map Value.int) (.int (0 : Int32)) := V_r19.keep K80 nin0
  have E_b22 : Exa Z T80.heap b22 "com/example/leasehold/leasehold/LeaseRequest" := E_b22.keep K80
  have F_holder_b22 : Fld Z T80.heap b22 "com/example/leasehold/leasehold/LeaseRequest" "holder" "Ljava/lang/String;" (.ref r3) := F_holder_b22.keep K80 nin0
  have F_actor_b22 : Fld Z T80.heap b22 "com/example/leasehold/leasehold/LeaseRequest" "actor" "Ljava/lang/String;" (.ref r7) := F_actor_b22.keep K80 nin0
  have F_intent_b22 : Fld Z T80.heap b22 "com/example/leasehold/leasehold/LeaseRequest" "intent" "Ljava/lang/String;" (.ref r11) := F_intent_b22.keep K80 nin0
  have F_intentVersion_b22 : Fld Z T80.heap b22 "com/example/leasehold/leasehold/LeaseRequest" "intentVersion" "Ljava/lang/String;" (.ref r15) := F_intentVersion_b22.keep K80 nin0
  have F_hostId_b22 : Fld Z T80.heap b22 "com/example/leasehold/leasehold/LeaseRequest" "hostId" "Ljava/lang/String;" (.ref r19) := F_hostId_b22.keep K80 nin0
  have F_pid_b22 : Fld Z T80.heap b22 "com/example/leasehold/leasehold/LeaseRequest" "pid" "J" (.long p5) := F_pid_b22.keep K80 nin0
  have F_ttlSeconds_b22 : Fld Z T80.heap b22 "com/example/leasehold/leasehold/LeaseRequest" "ttlSeconds" "J" (.long (if (1 : Int64) < p6 then p6 else (1 : Int64))) := F_ttlSeconds_b22.keep K80 nin0
  have E_r64 : Exa Z T80.heap r64 "java/lang/String" := E_r64.keep K80
  have Fv_r64 : Fld Z T80.heap r64 "java/lang/String" "value" "[B" (.ref t64) := Fv_r64.keep K80 nin0
  have Fc_r64 : Fld Z T80.heap r64 "java/lang/String" "coder" "B" (.int (0 : Int32)) := Fc_r64.keep K80 nin0
  have V_r64 : Arv Z T80.heap t64 kk64 .byte (2 : Int32) ((([(nar .char (p1 &&& (255 : Int32)).toUInt32.toUInt16.toUInt32.toInt32), (72 : Int32)] : List Int32).map (fun c => c.toInt8.toInt32)).map Value.int) (.int (0 : Int32)) := V_r64.keep K80 nin0
  have E_r72 : Exa Z T80.heap r72 "java/lang/String" := E_r72.keep K80
  have Fv_r72 : Fld Z T80.heap r72 "java/lang/String" "value" "[B" (.ref t72) := Fv_r72.keep K80 nin0
  have Fc_r72 : Fld Z T80.heap r72 "java/lang/String" "coder" "B" (.int (0 : Int32)) := Fc_r72.keep K80 nin0
  have V_r72 : Arv Z T80.heap t72 kk72 .byte (2 : Int32) ((([(nar .char (p2 &&& (255 : Int32)).toUInt32.toUInt16.toUInt32.toInt32), (65 : Int32)] : List Int32).map (fun c => c.toInt8.toInt32)).map Value.int) (.int (0 : Int32)) := V_r72.keep K80 nin0
  have Zs81 : n0 ≤ T80.heap.size := Nat.le_trans Zs73 K80.1
  have hk81 : T43.heap.size ≤ T80.heap.size := Nat.le_trans hk73 K80.1
  have KC81 : Keep h0 T80.heap [] := KC73.trans K80 all0
  have ner80lt79_0 : aI ≠ r80 := Nat.ne_of_lt (Nat.lt_of_lt_of_le lt79_0 sr80)
  have net80lt79_0 : aI ≠ t80 := Nat.ne_of_lt (Nat.lt_of_lt_of_le lt79_0 st_80)
  have ner80lt79_1 : v0 ≠ r80 := Nat.ne_of_lt (Nat.lt_of_lt_of_le lt79_1 sr80)
  have net80lt79_1 : v0 ≠ t80 := Nat.ne_of_lt (Nat.lt_of_lt_of_le lt79_1 st_80)
  have ner80lt79_2 : v1 ≠ r80 := Nat.ne_of_lt (Nat.lt_of_lt_of_le lt79_2 sr80)
  have net80lt79_2 : v1 ≠ t80 := Nat.ne_of_lt (Nat.lt_of_lt_of_le lt79_2 st_80)
  have ner80lt79_3 : v2 ≠ r80 := Nat.ne_of_lt (Nat.lt_of_lt_of_le lt79_3 sr80)
  have net80lt79_3 : v2 ≠ t80 := Nat.ne_of_lt (Nat.lt_of_lt_of_le lt79_3 st_80)
  have ner80lt79_4 : v3 ≠ r80 := Nat.ne_of_lt (Nat.lt_of_lt_of_le lt79_4 sr80)
  have net80lt79_4 : v3 ≠ t80 := Nat.ne_of_lt (Nat.lt_of_lt_of_le lt79_4 st_80)
  have ner80lt79_5 : r3 ≠ r80 := Nat.ne_of_lt (Nat.lt_of_lt_of_le lt79_5 sr80)
  have net80lt79_5 : r3 ≠ t80 := Nat.ne_of_lt (Nat.lt_of_lt_of_le lt79_5 st_80)
  have ner80lt79_6 : t3 ≠ r80 := Nat.ne_of_lt (Nat.lt_of_lt_of_le lt79_6 sr80)
  have net80lt79_6 : t3 ≠ t80 := Nat.ne_of_lt (Nat.lt_of_lt_of_le lt79_6 st_80)
  have ner80lt79_7 : r7 ≠ r80 := Nat.ne_of_lt (Nat.lt_of_lt_of_le lt79_7 sr80)
  have net80lt79_7 : r7 ≠ t80 := Nat.ne_of_lt (Nat.lt_of_lt_of_le lt79_7 st_80)
  have ner80lt79_8 : t7 ≠ r80 := Nat.ne_of_lt (Nat.lt_of_lt_of_le lt79_8 sr80)
  have net80lt79_8 : t7 ≠ t80 := Nat.ne_of_lt (Nat.lt_of_lt_of_le lt79_8 st_80)
  have ner80lt79_9 : r11 ≠ r80 := Nat.ne_of_lt (Nat.lt_of_lt_of_le lt79_9 sr80)
  have net80lt79_9 : r11 ≠ t80 := Nat.ne_of_lt (Nat.lt_of_lt_of_le lt79_9 st_80)
  have ner80lt79_10 : t11 ≠ r80 := Nat.ne_of_lt (Nat.lt_of_lt_of_le lt79_10 sr80)
  have net80lt79_10 : t11 ≠ t80 := Nat.ne_of_lt (Nat.lt_of_lt_of_le lt79_10 st_80)
  have ner80lt79_11 : r15 ≠ r80 := Nat.ne_of_lt (Nat.lt_of_lt_of_le lt79_11 sr80)
  have net80lt79_11 : r15 ≠ t80 := Nat.ne_of_lt (Nat.lt_of_lt_of_le lt79_11 st_80)
  have ner80lt79_12 : t15 ≠ r80 := Nat.ne_of_lt (Nat.lt_of_lt_of_le lt79_12 sr80)
  have net80lt79_12 : t15 ≠ t80 := Nat.ne_of_lt (Nat.lt_of_lt_of_le lt79_12 st_80)
  have ner80lt79_13 : r19 ≠ r80 := Nat.ne_of_lt (Nat.lt_of_lt_of_le lt79_13 sr80)
  have net80lt79_13 : r19 ≠ t80 := Nat.ne_of_lt (Nat.lt_of_lt_of_le lt79_13 st_80)
  have ner80lt79_14 : t19 ≠ r80 := Nat.ne_of_lt (Nat.lt_of_lt_of_le lt79_14 sr80)
  have net80lt79_14 : t19 ≠ t80 := Nat.ne_of_lt (Nat.lt_of_lt_of_le lt79_14 st_80)
  have ner80lt79_15 : b22 ≠ r80 := Nat.ne_of_lt (Nat.lt_of_lt_of_le lt79_15 sr80)
  have net80lt79_15 : b22 ≠ t80 := Nat.ne_of_lt (Nat.lt_of_lt_of_le lt79_15 st_80)
  have ner80lt79_16 : r64 ≠ r80 := Nat.ne_of_lt (Nat.lt_of_lt_of_le lt79_16 sr80)
  have net80lt79_16 : r64 ≠ t80 := Nat.ne_of_lt (Nat.lt_of_lt_of_le lt79_16 st_80)
  have ner80lt79_17 : t64 ≠ r80 := Nat.ne_of_lt (Nat.lt_of_lt_of_le lt79_17 sr80)
  have net80lt79_17 : t64 ≠ t80 := Nat.ne_of_lt (Nat.lt_of_lt_of_le lt79_17 st_80)
  have ner80lt79_18 : r72 ≠ r80 := Nat.ne_of_lt (Nat.lt_of_lt_of_le lt79_18 sr80)
  have net80lt79_18 : r72 ≠ t80 := Nat.ne_of_lt (Nat.lt_of_lt_of_le lt79_18 st_80)
  have ner80lt79_19 : t72 ≠ r80 := Nat.ne_of_lt (Nat.lt_of_lt_of_le lt79_19 sr80)
  have net80lt79_19 : t72 ≠ t80 := Nat.ne_of_lt (Nat.lt_of_lt_of_le lt79_19 st_80)
  have szr80 : h0.size ≤ r80 := Nat.le_trans KC73.1 sr80
  have E_r80 : Exa Z T80.heap r80 "java/lang/String" := Qe80
  have Fv_r80 : Fld Z T80.heap r80 "java/lang/String" "value" "[B" (.ref t80) := Qv80
  have Fc_r80 : Fld Z T80.heap r80 "java/lang/String" "coder" "B" (.int (0 : Int32)) := Qc80
  have V_r80 : Arv Z T80.heap t80 kk80 .byte (2 : Int32) ((([(nar .char (p3 &&& (255 : Int32)).toUInt32.toUInt16.toUInt32.toInt32), (73 : Int32)] : List Int32).map (fun c => c.toInt8.toInt32)).map Value.int) (.int (0 : Int32)) := Qa80
  have pre82 : ∀ tgt, Steps p.tables e below (T80.setTop (mkF m 166 #[.val (.int p1), .val (.int p2), .val (.int p3), .val (.int p4), .val (.long p5), .second, .val (.long p6), .second, .val (.ref r3), .val (.ref r7), .val (.ref r11), .val (.ref r15), .val (.ref r19), .val (.ref b22), .val (.ref r3), .val (.ref r7), .val (.ref r11), .val (.ref r15)] [(.ref r80), (.ref r11)])) tgt → Steps p.tables e below (s₁.setTop (entryFrame m #[(.int p1), (.int p2), (.int p3), (.int p4), (.long p5), (.long p6)] maxLocals)) tgt := by
    intro tgt kk
    refine pre78 tgt ?_
    refine st80 _ ?_
    show Steps p.tables e below (T80.setTop (mkF m 166 #[.val (.int p1), .val (.int p2), .val (.int p3), .val (.int p4), .val (.long p5), .second, .val (.long p6), .second, .val (.ref r3), .val (.ref r7), .val (.ref r11), .val (.ref r15), .val (.ref r19), .val (.ref b22), .val (.ref r3), .val (.ref r7), .val (.ref r11), .val (.ref r15)] [(.ref r80), (.ref r11)])) _
    exact kk
  have hwq83 : ∀ d ∈ StrChars.Road.wordsEq, d.before a0 Z = true := fun d hd => hw d ((by decide +kernel : ∀ d ∈ StrChars.Road.wordsEq, d ∈ tables_1) d hd)
  obtain ⟨cq84, kq84, q84a, q84b, q84c⟩ := isOf hZ rfl E_r11
  obtain ⟨_, _, ⟨T84, L84, k84, n84⟩, -, X84, ⟨Lc84, hQ84, l84, y84, z84⟩, st84⟩ := X80.virtualBack hx (y := (⟨"java/lang/String", "equals", "(Ljava/lang/Object;)Z"⟩ : MethodName)) (z := (⟨"java/lang/String", "equals", "(Ljava/lang/Object;)Z"⟩ : MethodName)) hown (mvT hZ (hw _ (List.mem_of_getElem? (i := 164) rfl))) (mvT hZ (hw _ (List.mem_of_getElem? (i := 165) rfl))) (notFace_of_selects (args := #[]) (mvT hZ (hw _ (List.mem_of_getElem? (i := 167) rfl)))) (mvT hZ (hw _ (List.mem_of_getElem? (i := 167) rfl))) (mvT hZ (hw _ (List.mem_of_getElem? (i := 166) rfl))) (by decide) (StrChars.Road.eqW (W := 0) hZ hwq83 (kI := 4) (hw _ (List.mem_of_getElem? (i := 6) rfl)) E_r11 Fv_r11 Fc_r11 V_r11 (own_cod (n := 2) rfl rfl (own_pS (own_and255 p3) (own_pS (by decide) own_p0))) (own_up (own_pS (own_and255 p3) (own_pS (by decide) own_p0))) (Nat.le_of_ble_eq_true rfl) E_r80 Fv_r80 Fc_r80 V_r80 (own_cod (n := 2) rfl rfl (own_pS (own_and255 p3) (own_pS (by decide) own_p0))) (own_up (own_pS (own_and255 p3) (own_pS (by decide) own_p0))) (Nat.le_of_ble_eq_true rfl) S_CS hz (by decide) (by decide)) q84a q84c (g := (mkF m 166 #[.val (.int p1), .val (.int p2), .val (.int p3), .val (.int p4), .val (.long p5), .second, .val (.long p6), .second, .val (.ref r3), .val (.ref r7), .val (.ref r11), .val (.ref r15), .val (.ref r19), .val (.ref b22), .val (.ref r3), .val (.ref r7), .val (.ref r11), .val (.ref r15)] [(.ref r80), (.ref r11)])) rfl (by rw [hml]; rfl) (Steps.refl _) (argsL := [(.ref r80)]) (rest := []) (lenOf pd__Ljava_lang_Object__Z rfl) rfl (by show 2 * 0 + _ ≤ _; exact Nat.le_of_eq rfl) (hb hby at_166) (fun _ _ => ⟨rfl, rfl, (by decide : 33 + 0 ≤ _), (by decide : 487 + 0 ≤ _)⟩)
  dsimp only [Pt.U, Pt.locs, Pt.cells, Pt.slots] at X84 l84 y84 z84 st84 hQ84
  subst l84 y84 z84
  have hQ84 := own_eqB hQ84
  obtain ⟨rfl, rfl, hh84⟩ := hQ84
  have N84q : Fr n0 ([] : List Loc) := Fr.nil n0
  have N84 := Fr.app N80 N84q
  have hk85 : ([(nar .char (p3 &&& (255 : Int32)).toUInt32.toUInt16.toUInt32.toInt32), (73 : Int32)] : List Int32) = [(nar .char (p3 &&& (255 : Int32)).toUInt32.toUInt16.toUInt32.toInt32), (73 : Int32)] := rfl
  have pre86 : ∀ tgt, Steps p.tables e below (T84.setTop (mkF m 177 #[.val (.int p1), .val (.int p2), .val (.int p3), .val (.int p4), .val (.long p5), .second, .val (.long p6), .second, .val (.ref r3), .val (.ref r7), .val (.ref r11), .val (.ref r15), .val (.ref r19), .val (.ref b22), .val (.ref r3), .val (.ref r7), .val (.ref r11), .val (.ref r15)] [(.int (86 : Int32)), (.int p4), (.ref r15)])) tgt → Steps p.tables e below (s₁.setTop (entryFrame m #[(.int p1), (.int p2), (.int p3), (.int p4), (.long p5), (.long p6)] maxLocals)) tgt := by
    intro tgt kk
    refine pre82 tgt ?_
    refine st84.trans ?_
    show Steps p.tables e below (T84.setTop (mkF m 169 #[.val (.int p1), .val (.int p2), .val (.int p3), .val (.int p4), .val (.long p5), .second, .val (.long p6), .second, .val (.ref r3), .val (.ref r7), .val (.ref r11), .val (.ref r15), .val (.ref r19), .val (.ref b22), .val (.ref r3), .val (.ref r7), .val (.ref r11), .val (.ref r15)] [(.int (bI (([(nar .char (p3 &&& (255 : Int32)).toUInt32.toUInt16.toUInt32.toInt32), (73 : Int32)] : List Int32) = [(nar .char (p3 &&& (255 : Int32)).toUInt32.toUInt16.toUInt32.toInt32), (73 : Int32)])))])) _
    refine XS.ifNo X84.here hx rfl (hb hby at_169) rfl (bB_eq_f hk85) ?_
    show Steps p.tables e below (T84.setTop (mkF m 172 #[.val (.int p1), .val (.int p2), .val (.int p3), .val (.int p4), .val (.long p5), .second, .val (.long p6), .second, .val (.ref r3), .val (.ref r7), .val (.ref r11), .val (.ref r15), .val (.ref r19), .val (.ref b22), .val (.ref r3), .val (.ref r7), .val (.ref r11), .val (.ref r15)] [])) _
    refine XS.aload X84.here hx rfl (hb hby at_172) rfl rfl ?_
    show Steps p.tables e below (T84.setTop (mkF m 174 #[.val (.int p1), .val (.int p2), .val (.int p3), .val (.int p4), .val (.long p5), .second, .val (.long p6), .second, .val (.ref r3), .val (.ref r7), .val (.ref r11), .val (.ref r15), .val (.ref r19), .val (.ref b22), .val (.ref r3), .val (.ref r7), .val (.ref r11), .val (.ref r15)] [(.ref r15)])) _
    refine XS.iloadN X84.here hx rfl (hb hby at_174) rfl ?_
    show Steps p.tables e below (T84.setTop (mkF m 175 #[.val (.int p1), .val (.int p2), .val (.int p3), .val (.int p4), .val (.long p5), .second, .val (.long p6), .second, .val (.ref r3), .val (.ref r7), .val (.ref r11), .val (.ref r15), .val (.ref r19), .val (.ref b22), .val (.ref r3), .val (.ref r7), .val (.ref r11), .val (.ref r15)] [(.int p4), (.ref r15)])) _
    refine XS.bipush X84.here hx rfl (hb hby at_175) ?_
    show Steps p.tables e below (T84.setTop (mkF m 177 #[.val (.int p1), .val (.int p2), .val (.int p3), .val (.int p4), .val (.long p5), .second, .val (.long p6), .second, .val (.ref r3), .val (.ref r7), .val (.ref r11), .val (.ref r15), .val (.ref r19), .val (.ref b22), .val (.ref r3), .val (.ref r7), .val (.ref r11), .val (.ref r15)] [(.int (86 : Int32)), (.int p4), (.ref r15)])) _
    exact kk
  have lt87_0 := E_I.lt
  have lt87_1 := E_HOLDER.lt
  have lt87_2 := E_ACTOR.lt
  have lt87_3 := E_INTENT.lt
  have lt87_4 := E_INTENT_VERSION.lt
  have lt87_5 := E_r3.lt
  have lt87_6 := V_r3.lt
  have lt87_7 := E_r7.lt
  have lt87_8 := V_r7.lt
  have lt87_9 := E_r11.lt
  have lt87_10 := V_r11.lt
  have lt87_11 := E_r15.lt
  have lt87_12 := V_r15.lt
  have lt87_13 := E_r19.lt
  have lt87_14 := V_r19.lt
  have lt87_15 := E_b22.lt
  have lt87_16 := E_r64.lt
  have lt87_17 := V_r64.lt
  have lt87_18 := E_r72.lt
  have lt87_19 := V_r72.lt
  have lt87_20 := E_r80.lt
  have lt87_21 := V_r80.lt
  obtain ⟨_, _, ⟨T88, L88, k88, n88⟩, -, X88, ⟨Lc88, hQ88, l88, y88, z88⟩, st88⟩ := Jvm.LawKit.callS X84 hx (y := (⟨"com/example/leasehold/leasehold/RecordedValueInPinLaw", "two", "(IC)Ljava/lang/String;"⟩ : MethodName)) hown (mvT hZ (hw _ (List.mem_of_getElem? (i := 0) rfl))) (mvT hZ (hw _ (List.mem_of_getElem? (i := 1) rfl))) (mvT hZ (hw _ (List.mem_of_getElem? (i := 2) rfl))) (mvT hZ (hw _ (List.mem_of_getElem? (i := 3) rfl))) (by decide) (backOf (W := 1) (rmTwo l Z a0 hw [] (p4) ((86 : Int32)) z0 T80.heap n0 Zs81 S_CS hz (by decide)) hZ (hw _ (List.mem_of_getElem? (i := 3) rfl)) (hw _ (List.mem_of_getElem? (i := 2) rfl)) (by decide) (by decide)) (g := (mkF m 177 #[.val (.int p1), .val (.int p2), .val (.int p3), .val (.int p4), .val (.long p5), .second, .val (.long p6), .second, .val (.ref r3), .val (.ref r7), .val (.ref r11), .val (.ref r15), .val (.ref r19), .val (.ref b22), .val (.ref r3), .val (.ref r7), .val (.ref r11), .val (.ref r15)] [(.int (86 : Int32)), (.int p4), (.ref r15)])) rfl (by rw [hml]; rfl) (argsL := [(.int p4), (.int (86 : Int32))]) (rest := [(.ref r15)]) (lenOf pd__IC_Ljava_lang_String_ rfl) rfl (by show 2 * 0 + _ ≤ _; exact Nat.le_of_eq rfl) (hb hby at_177) (fun _ _ => ⟨rfl, hh84, (by decide : 33 + 3 ≤ _), (by decide : 487 + 8 ≤ _)⟩)
  dsimp only [Pt.U, Pt.locs, Pt.cells, Pt.slots] at X88 l88 y88 z88 st88 hQ88
  subst l88 y88 z88
  obtain ⟨r88, t88, kk88, rfl, N88q, K88, gr88, sr88, gt88, st_88, Qe88, Qv88, Qc88, Qa88⟩ := hQ88
  have N88 := Fr.app N84 N88q
  have S_CS : Sta Z T88.heap "java/lang/String" "COMPACT_STRINGS" "Z" (.int z0) := own_sta_keep S_CS K88 all0
  have S_A : Sta Z T88.heap "java/lang/CharacterDataLatin1" "A" "[I" (.ref aA) := own_sta_keep S_A K88 all0
  have S_I : Sta Z T88.heap "java/lang/CharacterDataLatin1" "instance" "Ljava/lang/CharacterDataLatin1;" (.ref aI) := own_sta_keep S_I K88 all0
  have E_I : Exa Z T88.heap aI "java/lang/CharacterDataLatin1" := E_I.keep K88
  have S_HOLDER : Sta Z T88.heap "com/example/leasehold/leasehold/RecordedValue" "HOLDER" "Lcom/example/leasehold/leasehold/RecordedValue;" (.ref v0) := own_sta_keep S_HOLDER K88 all0
  have S_ACTOR : Sta Z T88.heap "com/example/leasehold/leasehold/RecordedValue" "ACTOR" "Lcom/example/leasehold/leasehold/RecordedValue;" (.ref v1) := own_sta_keep S_ACTOR K88 all0
  have S_INTENT : Sta Z T88.heap "com/example/leasehold/leasehold/RecordedValue" "INTENT" "Lcom/example/leasehold/leasehold/RecordedValue;" (.ref v2) := own_sta_keep S_INTENT K88 all0
  have S_INTENT_VERSION : Sta Z T88.heap "com/example/leasehold/leasehold/RecordedValue" "INTENT_VERSION" "Lcom/example/leasehold/leasehold/RecordedValue;" (.ref v3) := own_sta_keep S_INTENT_VERSION K88 all0
  have E_HOLDER : Exa Z T88.heap v0 "com/example/leasehold/leasehold/RecordedValue" := E_HOLDER.keep K88
  have E_ACTOR : Exa Z T88.heap v1 "com/example/leasehold/leasehold/RecordedValue" := E_ACTOR.keep K88
  have E_INTENT : Exa Z T88.heap v2 "com/example/leasehold/leasehold/RecordedValue" := E_INTENT.keep K88
  have E_INTENT_VERSION : Exa Z T88.heap v3 "com/example/leasehold/leasehold/RecordedValue" := E_INTENT_VERSION.keep K88
  have F_HOLDER : Fld Z T88.heap v0 "java/lang/Enum" "ordinal" "I" (.int (0 : Int32)) := F_HOLDER.keep K88 nin0
  have F_ACTOR : Fld Z T88.heap v1 "java/lang/Enum" "ordinal" "I" (.int (1 : Int32)) := F_ACTOR.keep K88 nin0
  have F_INTENT : Fld Z T88.heap v2 "java/lang/Enum" "ordinal" "I" (.int (2 : Int32)) := F_INTENT.keep K88 nin0
  have F_INTENT_VERSION : Fld Z T88.heap v3 "java/lang/Enum" "ordinal" "I" (.int (3 : Int32)) := F_INTENT_VERSION.keep K88 nin0
  have E_r3 : Exa Z T88.heap r3 "java/lang/String" := E_r3.keep K88
  have Fv_r3 : Fld Z T88.heap r3 "java/lang/String" "value" "[B" (.ref t3) := Fv_r3.keep K88 nin0
  have Fc_r3 : Fld Z T88.heap r3 "java/lang/String" "coder" "B" (.int (0 : Int32)) := Fc_r3.keep K88 nin0
  have V_r3 : Arv Z T88.heap t3 kk3 .byte (2 : Int32) ((([(nar .char (p1 &&& (255 : Int32)).toUInt32.toUInt16.toUInt32.toInt32), (72 : Int32)] : List Int32).map (fun c => c.toInt8.toInt32)).map Value.int) (.int (0 : Int32)) := V_r3.keep K88 nin0
  have E_r7 : Exa Z T88.heap r7 "java/lang/String" := E_r7.keep K88
  have Fv_r7 : Fld Z T88.heap r7 "java/lang/String" "value" "[B" (.ref t7) := Fv_r7.keep K88 nin0
  have Fc_r7 : Fld Z T88.heap r7 "java/lang/String" "coder" "B" (.int (0 : Int32)) := Fc_r7.keep K88 nin0
  have V_r7 : Arv Z T88.heap t7 kk7 .byte (2 : Int32) ((([(nar .char (p2 &&& (255 : Int32)).toUInt32.toUInt16.toUInt32.toInt32), (65 : Int32)] : List Int32).map (fun c => c.toInt8.toInt32)).map Value.int) (.int (0 : Int32)) := V_r7.keep K88 nin0
  have E_r11 : Exa Z T88.heap r11 "java/lang/String" := E_r11.keep K88
  have Fv_r11 : Fld Z T88.heap r11 "java/lang/String" "value" "[B" (.ref t11) := Fv_r11.keep K88 nin0
  have Fc_r11 : Fld Z T88.heap r11 "java/lang/String" "coder" "B" (.int (0 : Int32)) := Fc_r11.keep K88 nin0
  have V_r11 : Arv Z T88.heap t11 kk11 .byte (2 : Int32) ((([(nar .char (p3 &&& (255 : Int32)).toUInt32.toUInt16.toUInt32.toInt32), (73 : Int32)] : List Int32).map (fun c => c.toInt8.toInt32)).map Value.int) (.int (0 : Int32)) := V_r11.keep K88 nin0
  have E_r15 : Exa Z T88.heap r15 "java/lang/String" := E_r15.keep K88
  have Fv_r15 : Fld Z T88.heap r15 "java/lang/String" "value" "[B" (.ref t15) := Fv_r15.keep K88 nin0
  have Fc_r15 : Fld Z T88.heap r15 "java/lang/String" "coder" "B" (.int (0 : Int32)) := Fc_r15.keep K88 nin0
  have V_r15 : Arv Z T88.heap t15 kk15 .byte (2 : Int32) ((([(nar .char (p4 &&& (255 : Int32)).toUInt32.toUInt16.toUInt32.toInt32), (86 : Int32)] : List Int32).map (fun c => c.toInt8.toInt32)).map Value.int) (.int (0 : Int32)) := V_r15.keep K88 nin0
  have E_r19 : Exa Z T88.heap r19 "java/lang/String" := E_r19.keep K88
  have Fv_r19 : Fld Z T88.heap r19 "java/lang/String" "value" "[B" (.ref t19) := Fv_r19.keep K88 nin0
  have Fc_r19 : Fld Z T88.heap r19 "java/lang/String" "coder" "B" (.int (0 : Int32)) := Fc_r19.keep K88 nin0
  have V_r19 : Arv Z T88.heap t19 kk19 .byte (2 : Int32) ((([(nar .char (((p1.toUInt32 >>> ((8 : Int32) &&& 31).toUInt32).toInt32) &&& (255 : Int32)).toUInt32.toUInt16.toUInt32.toInt32), (83 : Int32)] : List Int32).map (fun c => c.toInt8.toInt32)).map Value.int) (.int (0 : Int32)) := V_r19.keep K88 nin0
  have E_b22 : Exa Z T88.heap b22 "com/example/leasehold/leasehold/LeaseRequest" := E_b22.keep K88
  have F_holder_b22 : Fld Z T88.heap b22 "com/example/leasehold/leasehold/LeaseRequest" "holder" "Ljava/lang/String;" (.ref r3) := F_holder_b22.keep K88 nin0
  have F_actor_b22 : Fld Z T88.heap b22 "com/example/leasehold/leasehold/LeaseRequest" "actor" "Ljava/lang/String;" (.ref r7) := F_actor_b22.keep K88 nin0
  have F_intent_b22 : Fld Z T88.heap b22 "com/example/leasehold/leasehold/LeaseRequest" "intent" "Ljava/lang/String;" (.ref r11) := F_intent_b22.keep K88 nin0
  have F_intentVersion_b22 : Fld Z T88.heap b22 "com/example/leasehold/leasehold/LeaseRequest" "intentVersion" "Ljava/lang/String;" (.ref r15) := F_intentVersion_b22.keep K88 nin0
  have F_hostId_b22 : Fld Z T88.heap b22 "com/example/leasehold/leasehold/LeaseRequest" "hostId" "Ljava/lang/String;" (.ref r19) := F_hostId_b22.keep K88 nin0
  have F_pid_b22 : Fld Z T88.heap b22 "com/example/leasehold/leasehold/LeaseRequest" "pid" "J" (.long p5) := F_pid_b22.keep K88 nin0
  have F_ttlSeconds_b22 : Fld Z T88.heap b22 "com/example/leasehold/leasehold/LeaseRequest" "ttlSeconds" "J" (.long (if (1 : Int64) < p6 then p6 else (1 : Int64))) := F_ttlSeconds_b22.keep K88 nin0
  have E_r64 : Exa Z T88.heap r64 "java/lang/String" := E_r64.keep K88
  have Fv_r64 : Fld Z T88.heap r64 "java/lang/String" "value" "[B" (.ref t64) := Fv_r64.keep K88 nin0
  have Fc_r64 : Fld Z T88.heap r64 "java/lang/String" "coder" "B" (.int (0 : Int32)) := Fc_r64.keep K88 nin0
  have V_r64 : Arv Z T88.heap t64 kk64 .byte (2 : Int32) ((([(nar .char (p1 &&& (255 : Int32)).toUInt32.toUInt16.toUInt32.toInt32), (72 : Int32)] : List Int32).map (fun c => c.toInt8.toInt32)).map Value.int) (.int (0 : Int32)) := V_r64.keep K88 nin0
  have E_r72 : Exa Z T88.heap r72 "java/lang/String" := E_r72.keep K88
  have Fv_r72 : Fld Z T88.heap r72 "java/lang/String" "value" "[B" (.ref t72) := Fv_r72.keep K88 nin0
  have Fc_r72 : Fld Z T88.heap r72 "java/lang/String" "coder" "B" (.int (0 : Int32)) := Fc_r72.keep K88 nin0
  have V_r72 : Arv Z T88.heap t72 kk72 .byte (2 : Int32) ((([(nar .char (p2 &&& (255 : Int32)).toUInt32.toUInt16.toUInt32.toInt32), (65 : Int32)] : List Int32).map (fun c => c.toInt8.toInt32)).map Value.int) (.int (0 : Int32)) := V_r72.keep K88 nin0
  have E_r80 : Exa Z T88.heap r80 "java/lang/String" := E_r80.keep K88
  have Fv_r80 : Fld Z T88.heap r80 "java/lang/String" "value" "[B" (.ref t80) := Fv_r80.keep K88 nin0
  have Fc_r80 : Fld Z T88.heap r80 "java/lang/String" "coder" "B" (.int (0 : Int32)) := Fc_r80.keep K88 nin0
  have V_r80 : Arv Z T88.heap t80 kk80 .byte (2 : Int32) ((([(nar .char (p3 &&& (255 : Int32)).toUInt32.toUInt16.toUInt32.toInt32), (73 : Int32)] : List Int32).map (fun c => c.toInt8.toInt32)).map Value.int) (.int (0 : Int32)) := V_r80.keep K88 nin0
  have Zs89 : n0 ≤ T88.heap.size := Nat.le_trans Zs81 K88.1
  have hk89 : T43.heap.size ≤ T88.heap.size := Nat.le_trans hk81 K88.1
  have KC89 : Keep h0 T88.heap [] := KC81.trans K88 all0
  have ner88lt87_0 : aI ≠ r88 := Nat.ne_of_lt (Nat.lt_of_lt_of_le lt87_0 sr88)
  have net88lt87_0 : aI ≠ t88 := Nat.ne_of_lt (Nat.lt_of_lt_of_le lt87_0 st_88)
  have ner88lt87_1 : v0 ≠ r88 := Nat.ne_of_lt (Nat.lt_of_lt_of_le lt87_1 sr88)
  have net88lt87_1 : v0 ≠ t88 := Nat.ne_of_lt (Nat.lt_of_lt_of_le lt87_1 st_88)
  have ner88lt87_2 : v1 ≠ r88 := Nat.ne_of_lt (Nat.lt_of_lt_of_le lt87_2 sr88)
  have net88lt87_2 : v1 ≠ t88 := Nat.ne_of_lt (Nat.lt_of_lt_of_le lt87_2 st_88)
  have ner88lt87_3 : v2 ≠ r88 := Nat.ne_of_lt (Nat.lt_of_lt_of_le lt87_3 sr88)
  have net88lt87_3 : v2 ≠ t88 := Nat.ne_of_lt (Nat.lt_of_lt_of_le lt87_3 st_88)
  have ner88lt87_4 : v3 ≠ r88 := Nat.ne_of_lt (Nat.lt_of_lt_of_le lt87_4 sr88)
  have net88lt87_4 : v3 ≠ t88 := Nat.ne_of_lt (Nat.lt_of_lt_of_le lt87_4 st_88)
  have ner88lt87_5 : r3 ≠ r88 := Nat.ne_of_lt (Nat.lt_of_lt_of_le lt87_5 sr88)
  have net88lt87_5 : r3 ≠ t88 := Nat.ne_of_lt (Nat.lt_of_lt_of_le lt87_5 st_88)
  have ner88lt87_6 : t3 ≠ r88 := Nat.ne_of_lt (Nat.lt_of_lt_of_le lt87_6 sr88)
  have net88lt87_6 : t3 ≠ t88 := Nat.ne_of_lt (Nat.lt_of_lt_of_le lt87_6 st_88)
  have ner88lt87_7 : r7 ≠ r88 := Nat.ne_of_lt (Nat.lt_of_lt_of_le lt87_7 sr88)
  have net88lt87_7 : r7 ≠ t88 := Nat.ne_of_lt (Nat.lt_of_lt_of_le lt87_7 st_88)
  have ner88lt87_8 : t7 ≠ r88 := Nat.ne_of_lt (Nat.lt_of_lt_of_le lt87_8 sr88)
  have net88lt87_8 : t7 ≠ t88 := Nat.ne_of_lt (Nat.lt_of_lt_of_le lt87_8 st_88)
  have ner88lt87_9 : r11 ≠ r88 := Nat.ne_of_lt (Nat.lt_of_lt_of_le lt87_9 sr88)
  have net88lt87_9 : r11 ≠ t88 := Nat.ne_of_lt (Nat.lt_of_lt_of_le lt87_9 st_88)
  have ner88lt87_10 : t11 ≠ r88 := Nat.ne_of_lt (Nat.lt_of_lt_of_le lt87_10 sr88)
  have net88lt87_10 : t11 ≠ t88 := Nat.ne_of_lt (Nat.lt_of_lt_of_le lt87_10 st_88)
  have ner88lt87_11 : r15 ≠ r88 := Nat.ne_of_lt (Nat.lt_of_lt_of_le lt87_11 sr88)
  have net88lt87_11 : r15 ≠ t88 := Nat.ne_of_lt (Nat.lt_of_lt_of_le lt87_11 st_88)
  have ner88lt87_12 : t15 ≠ r88 := Nat.ne_of_lt (Nat.lt_of_lt_of_le lt87_12 sr88)
  have net88lt87_12 : t15 ≠ t88 := Nat.ne_of_lt (Nat.lt_of_lt_of_le lt87_12 st_88)
  have ner88lt87_13 : r19 ≠ r88 := Nat.ne_of_lt (Nat.lt_of_lt_of_le lt87_13 sr88)
  have net88lt87_13 : r19 ≠ t88 := Nat.ne_of_lt (Nat.lt_of_lt_of_le lt87_13 st_88)
  have ner88lt87_14 : t19 ≠ r88 := Nat.ne_of_lt (Nat.lt_of_lt_of_le lt87_14 sr88)
  have net88lt87_14 : t19 ≠ t88 := Nat.ne_of_lt (Nat.lt_of_lt_of_le lt87_14 st_88)
  have ner88lt87_15 : b22 ≠ r88 := Nat.ne_of_lt (Nat.lt_of_lt_of_le lt87_15 sr88)
  have net88lt87_15 : b22 ≠ t88 := Nat.ne_of_lt (Nat.lt_of_lt_of_le lt87_15 st_88)
  have ner88lt87_16 : r64 ≠ r88 := Nat.ne_of_lt (Nat.lt_of_lt_of_le lt87_16 sr88)
  have net88lt87_16 : r64 ≠ t88 := Nat.ne_of_lt (Nat.lt_of_lt_of_le lt87_16 st_88)
  have ner88lt87_17 : t64 ≠ r88 := Nat.ne_of_lt (Nat.lt_of_lt_of_le lt87_17 sr88)
  have net88lt87_17 : t64 ≠ t88 := Nat.ne_of_lt (Nat.lt_of_lt_of_le lt87_17 st_88)
  have ner88lt87_18 : r72 ≠ r88 := Nat.ne_of_lt (Nat.lt_of_lt_of_le lt87_18 sr88)
  have net88lt87_18 : r72 ≠ t88 := Nat.ne_of_lt (Nat.lt_of_lt_of_le lt87_18 st_88)
  have ner88lt87_19 : t72 ≠ r88 := Nat.ne_of_lt (Nat.lt_of_lt_of_le lt87_19 sr88)
  have net88lt87_19 : t72 ≠ t88 := Nat.ne_of_lt (Nat.lt_of_lt_of_le lt87_19 st_88)
  have ner88lt87_20 : r80 ≠ r88 := Nat.ne_of_lt (Nat.lt_of_lt_of_le lt87_20 sr88)
  have net88lt87_20 : r80 ≠ t88 := Nat.ne_of_lt (Nat.lt_of_lt_of_le lt87_20 st_88)
  have ner88lt87_21 : t80 ≠ r88 := Nat.ne_of_lt (Nat.lt_of_lt_of_le lt87_21 sr88)
  have net88lt87_21 : t80 ≠ t88 := Nat.ne_of_lt (Nat.lt_of_lt_of_le lt87_21 st_88)
  have szr88 : h0.size ≤ r88 := Nat.le_trans KC81.1 sr88
  have E_r88 : Exa Z T88.heap r88 "java/lang/String" := Qe88
  have Fv_r88 : Fld Z T88.heap r88 "java/lang/String" "value" "[B" (.ref t88) := Qv88
  have Fc_r88 : Fld Z T88.heap r88 "java/lang/String" "coder" "B" (.int (0 : Int32)) := Qc88
  have V_r88 : Arv Z T88.heap t88 kk88 .byte (2 : Int32) ((([(nar .char (p4 &&& (255 : Int32)).toUInt32.toUInt16.toUInt32.toInt32), (86 : Int32)] : List Int32).map (fun c => c.toInt8.toInt32)).map Value.int) (.int (0 : Int32)) := Qa88
  have pre90 : ∀ tgt, Steps p.tables e below (T88.setTop (mkF m 180 #[.val (.int p1), .val (.int p2), .val (.int p3), .val (.int p4), .val (.long p5), .second, .val (.long p6), .second, .val (.ref r3), .val (.ref r7), .val (.ref r11), .val (.ref r15), .val (.ref r19), .val (.ref b22), .val (.ref r3), .val (.ref r7), .val (.ref r11), .val (.ref r15)] [(.ref r88), (.ref r15)])) tgt → Steps p.tables e below (s₁.setTop (entryFrame m #[(.int p1), (.int p2), (.int p3), (.int p4), (.long p5), (.long p6)] maxLocals)) tgt := by
    intro tgt kk
    refine pre86 tgt ?_
    refine st88 _ ?_
    show Steps p.tables e below (T88.setTop (mkF m 180 #[.val (.int p1), .val (.int p2), .val (.int p3), .val (.int p4), .val (.long p5), .second, .val (.long p6), .second, .val (.ref r3), .val (.ref r7), .val (.ref r11), .val (.ref r15), .val (.ref r19), .val (.ref b22), .val (.ref r3), .val (.ref r7), .val (.ref r11), .val (.ref r15)] [(.ref r88), (.ref r15)])) _
    exact kk
  have hwq91 : ∀ d ∈ StrChars.Road.wordsEq, d.before a0 Z = true := fun d hd => hw d ((by decide +kernel : ∀ d ∈ StrChars.Road.wordsEq, d ∈ tables_1) d hd)
  obtain ⟨cq92, kq92, q92a, q92b, q92c⟩ := isOf hZ rfl E_r15
  obtain ⟨_, _, ⟨T92, L92, k92, n92⟩, -, X92, ⟨Lc92, hQ92, l92, y92, z92⟩, st92⟩ := X88.virtualBack hx (y := (⟨"java/lang/String", "equals", "(Ljava/lang/Object;)Z"⟩ : MethodName)) (z := (⟨"java/lang/String", "equals", "(Ljava/lang/Object;)Z"⟩ : MethodName)) hown (mvT hZ (hw _ (List.mem_of_getElem? (i := 164) rfl))) (mvT hZ (hw _ (List.mem_of_getElem? (i := 165) rfl))) (notFace_of_selects (args := #[]) (mvT hZ (hw _ (List.mem_of_getElem? (i := 167) rfl)))) (mvT hZ (hw _ (List.mem_of_getElem? (i := 167) rfl))) (mvT hZ (hw _ (List.mem_of_getElem? (i := 166) rfl))) (by decide) (StrChars.Road.eqW (W := 0) hZ hwq91 (kI := 4) (hw _ (List.mem_of_getElem? (i := 6) rfl)) E_r15 Fv_r15 Fc_r15 V_r15 (own_cod (n := 2) rfl rfl (own_pS (own_and255 p4) (own_pS (by decide) own_p0))) (own_up (own_pS (own_and255 p4) (own_pS (by decide) own_p0))) (Nat.le_of_ble_eq_true rfl) E_r88 Fv_r88 Fc_r88 V_r88 (own_cod (n := 2) rfl rfl (own_pS (own_and255 p4) (own_pS (by decide) own_p0))) (own_up (own_pS (own_and255 p4) (own_pS (by decide) own_p0))) (Nat.le_of_ble_eq_true rfl) S_CS hz (by decide) (by decide)) q92a q92c (g := (mkF m 180 #[.val (.int p1), .val (.int p2), .val (.int p3), .val (.int p4), .val (.long p5), .second, .val (.long p6), .second, .val (.ref r3), .val (.ref r7), .val (.ref r11), .val (.ref r15), .val (.ref r19), .val (.ref b22), .val (.ref r3), .val (.ref r7), .val (.ref r11), .val (.ref r15)] [(.ref r88), (.ref r15)])) rfl (by rw [hml]; rfl) (Steps.refl _) (argsL := [(.ref r88)]) (rest := []) (lenOf pd__Ljava_lang_Object__Z rfl) rfl (by show 2 * 0 + _ ≤ _; exact Nat.le_of_eq rfl) (hb hby at_180) (fun _ _ => ⟨rfl, rfl, (by decide : 36 + 0 ≤ _), (by decide : 495 + 0 ≤ _)⟩)
  dsimp only [Pt.U, Pt.locs, Pt.cells, Pt.slots] at X92 l92 y92 z92 st92 hQ92
  subst l92 y92 z92
  have hQ92 := own_eqB hQ92
  obtain ⟨rfl, rfl, hh92⟩ := hQ92
  have N92q : Fr n0 ([] : List Loc) := Fr.nil n0
  have N92 := Fr.app N88 N92q
  have hk93 : ([(nar .char (p4 &&& (255 : Int32)).toUInt32.toUInt16.toUInt32.toInt32), (86 : Int32)] : List Int32) = [(nar .char (p4 &&& (255 : Int32)).toUInt32.toUInt16.toUInt32.toInt32), (86 : Int32)] := rfl
  obtain ⟨fs, hr, hrun, hended, hR⟩ := Stand.leaveW (s := s) (vm₁ := T43.vm) X92 (n := T43.heap.size) hS43 (by rw [hh92]; exact hk89) (v := some (.int (1 : Int32))) (fun h => by rw [Bd.returns] at h; cases h)
  refine ⟨_, _, pre90 _ ?_, hrun, hended, _, _, rfl, ?_, hR.1, hR.2.1, hR.2.2.1, hR.2.2.2.mono (by decide) (by decide)⟩
  · skip
    refine st92.trans ?_
    show Steps p.tables e below (T92.setTop (mkF m 183 #[.val (.int p1), .val (.int p2), .val (.int p3), .val (.int p4), .val (.long p5), .second, .val (.long p6), .second, .val (.ref r3), .val (.ref r7), .val (.ref r11), .val (.ref r15), .val (.ref r19), .val (.ref b22), .val (.ref r3), .val (.ref r7), .val (.ref r11), .val (.ref r15)] [(.int (bI (([(nar .char (p4 &&& (255 : Int32)).toUInt32.toUInt16.toUInt32.toInt32), (86 : Int32)] : List Int32) = [(nar .char (p4 &&& (255 : Int32)).toUInt32.toUInt16.toUInt32.toInt32), (86 : Int32)])))])) _
    refine XS.ifNo X92.here hx rfl (hb hby at_183) rfl (bB_eq_f hk93) ?_
    show Steps p.tables e below (T92.setTop (mkF m 186 #[.val (.int p1), .val (.int p2), .val (.int p3), .val (.int p4), .val (.long p5), .second, .val (.long p6), .second, .val (.ref r3), .val (.ref r7), .val (.ref r11), .val (.ref r15), .val (.ref r19), .val (.ref b22), .val (.ref r3), .val (.ref r7), .val (.ref r11), .val (.ref r15)] [])) _
    refine XS.iconst X92.here hx rfl (hb hby at_186) ?_
    show Steps p.tables e below (T92.setTop (mkF m 187 #[.val (.int p1), .val (.int p2), .val (.int p3), .val (.int p4), .val (.long p5), .second, .val (.long p6), .second, .val (.ref r3), .val (.ref r7), .val (.ref r11), .val (.ref r15), .val (.ref r19), .val (.ref b22), .val (.ref r3), .val (.ref r7), .val (.ref r11), .val (.ref r15)] [(.int (1 : Int32))])) _
    refine XS.goto X92.here hx rfl (pc0 := 187) (pc' := 191) rfl (hb hby at_187) (by decide) (by decide) ?_
    show Steps p.tables e below (T92.setTop (mkF m 191 #[.val (.int p1), .val (.int p2), .val (.int p3), .val (.int p4), .val (.long p5), .second, .val (.long p6), .second, .val (.ref r3), .val (.ref r7), .val (.ref r11), .val (.ref r15), .val (.ref r19), .val (.ref b22), .val (.ref r3), .val (.ref r7), .val (.ref r11), .val (.ref r15)] [(.int (1 : Int32))])) _
    exact retN X92 hx (t := .boolean) Bd.returns (by simp) (hb hby at_191) hr
  · show Q0 Z p1 p2 p3 p4 p5 p6 z0 aA clA aI v0 v1 v2 v3 h0 n0 _ T92.heap _
    rw [hh92]
    exact ⟨rfl, N92⟩
set_option maxRecDepth 65536 in
set_option maxHeartbeats 40000000 in
theorem comes_1 {Post : Tables → Env → Array Value → State → Outcome → State → Prop} (hpost : ∀ tb e args s v u, (limb_1_1.after args s (.returned v) u = true ∧ limb_1_2.after args s (.returned v) u = true ∧ True) → ReturnedEndW s (.returned v) u (Jvm.fieldLocs frame_1_writes args s ++ Jvm.arrayLocs frame_1_arrays args s ++ Jvm.staticLocs frame_1_statics s) 72 4352 → Post tb e args s (.returned v) u) :
    ArmFor flags0 classFile x code maxLocals ret World_1 tables_1 room_1 Calls_1 rest_1 Pre_1 Post := by
  intro l hfl _ _ p e ha hc hk s m args below hf hA hF happ hP
  obtain ⟨hcalls, hrest, hpre⟩ := hP
  obtain ⟨-, -, -, hnamed, -, -, -, hat⟩ := (Spec.applies_iff hf).mp happ
  obtain ⟨hg, hn⟩ := and_e (Cond.before_iff.mp (show (Jvm.Cond.and given_1 narrow_1).before args s = true from hpre))
  obtain ⟨hcount, g0⟩ := and_e hg
  obtain ⟨ga0, g1⟩ := and_e g0
  obtain ⟨ga1, g2⟩ := and_e g1
  obtain ⟨ga2, g3⟩ := and_e g2
  obtain ⟨ga3, g4⟩ := and_e g3
  obtain ⟨ga4, g5⟩ := and_e g4
  have ga5 := g5
  obtain ⟨w0, w1, w2, w3, w4, w5, rfl⟩ : ∃ w0 w1 w2 w3 w4 w5 : Value, args = #[w0, w1, w2, w3, w4, w5] := by
    have hs : args.size = 6 := by simpa [Cond.value, given_1] using hcount
    obtain ⟨L⟩ := args
    match L, hs with
    | [w0, w1, w2, w3, w4, w5], _ => exact ⟨w0, w1, w2, w3, w4, w5, rfl⟩
  have hw := fun d (hd : d ∈ tables_1) => atoms_spec (ws := Jvm.Cond.code x code maxLocals ret :: tables_1) hat d (List.mem_cons_of_mem _ hd)
  have hfit : Fit s := fun {y c} hc i hi => by
    obtain ⟨ha, rfl⟩ := Array.getElem?_eq_some_iff.mp hc
    have q := List.all_eq_true.mp ((Array.all_eq_true_iff_forall_mem.mp hF) _ (Array.getElem_mem ha)) i (List.mem_range.mpr hi)
    simpa [Array.getElem?_eq_getElem hi] using q
  obtain ⟨i0, ei0⟩ := is_v ga0
  obtain rfl : w0 = (.int i0) := Option.some.inj ei0
  obtain ⟨i1, ei1⟩ := is_v ga1
  obtain rfl : w1 = (.int i1) := Option.some.inj ei1
  obtain ⟨i2, ei2⟩ := is_v ga2
  obtain rfl : w2 = (.int i2) := Option.some.inj ei2
  obtain ⟨i3, ei3⟩ := is_v ga3
  obtain rfl : w3 = (.int i3) := Option.some.inj ei3
  obtain ⟨i4, ei4⟩ := isL_v ga4
  obtain rfl : w4 = (.long i4) := Option.some.inj ei4
  obtain ⟨i5, ei5⟩ := isL_v ga5
  obtain rfl : w5 = (.long i5) := Option.some.inj ei5
  obtain ⟨hn_0, hr_0⟩ := and_e hn
  obtain ⟨hn_1, hr_1⟩ := and_e hr_0
  obtain ⟨hn_2, hr_2⟩ := and_e hr_1
  obtain ⟨hn_3, hr_3⟩ := and_e hr_2
  obtain ⟨hn_4, hr_4⟩ := and_e hr_3
  obtain ⟨hn_5, hr_5⟩ := and_e hr_4
  obtain ⟨hn_6, hr_6⟩ := and_e hr_5
  obtain ⟨a_HOLDER, ev_HOLDER⟩ := exa_v hn_0
  have E_HOLDER : Exa s s.heap a_HOLDER "com/example/leasehold/leasehold/RecordedValue" := Exa.start ev_HOLDER hn_0
  have S_HOLDER : Sta s s.heap "com/example/leasehold/leasehold/RecordedValue" "HOLDER" "Lcom/example/leasehold/leasehold/RecordedValue;" (.ref a_HOLDER) := Sta.start ev_HOLDER (Or.inr ⟨(hw _ (List.mem_of_getElem? (i := 122) rfl)), (hw _ (List.mem_of_getElem? (i := 123) rfl))⟩)
  obtain ⟨a_ACTOR, ev_ACTOR⟩ := exa_v hn_2
  have E_ACTOR : Exa s s.heap a_ACTOR "com/example/leasehold/leasehold/RecordedValue" := Exa.start ev_ACTOR hn_2
  have S_ACTOR : Sta s s.heap "com/example/leasehold/leasehold/RecordedValue" "ACTOR" "Lcom/example/leasehold/leasehold/RecordedValue;" (.ref a_ACTOR) := Sta.start ev_ACTOR (Or.inr ⟨(hw _ (List.mem_of_getElem? (i := 122) rfl)), (hw _ (List.mem_of_getElem? (i := 144) rfl))⟩)
  obtain ⟨a_INTENT, ev_INTENT⟩ := exa_v hn_4
  have E_INTENT : Exa s s.heap a_INTENT "com/example/leasehold/leasehold/RecordedValue" := Exa.start ev_INTENT hn_4
  have S_INTENT : Sta s s.heap "com/example/leasehold/leasehold/RecordedValue" "INTENT" "Lcom/example/leasehold/leasehold/RecordedValue;" (.ref a_INTENT) := Sta.start ev_INTENT (Or.inr ⟨(hw _ (List.mem_of_getElem? (i := 122) rfl)), (hw _ (List.mem_of_getElem? (i := 151) rfl))⟩)
  obtain ⟨a_INTENT_VERSION, ev_INTENT_VERSION⟩ := exa_v hn_6
  have E_INTENT_VERSION : Exa s s.heap a_INTENT_VERSION "com/example/leasehold/leasehold/RecordedValue" := Exa.start ev_INTENT_VERSION hn_6
  have S_INTENT_VERSION : Sta s s.heap "com/example/leasehold/leasehold/RecordedValue" "INTENT_VERSION" "Lcom/example/leasehold/leasehold/RecordedValue;" (.ref a_INTENT_VERSION) := Sta.start ev_INTENT_VERSION (Or.inr ⟨(hw _ (List.mem_of_getElem? (i := 122) rfl)), (hw _ (List.mem_of_getElem? (i := 158) rfl))⟩)
  have F_HOLDER_ordinal : Fld s s.heap a_HOLDER "java/lang/Enum" "ordinal" "I" (.int (0 : Int32)) := Fld.start ((fld_at ev_HOLDER).symm.trans (own_eqI hn_1))
  have F_ACTOR_ordinal : Fld s s.heap a_ACTOR "java/lang/Enum" "ordinal" "I" (.int (1 : Int32)) := Fld.start ((fld_at ev_ACTOR).symm.trans (own_eqI hn_3))
  have F_INTENT_ordinal : Fld s s.heap a_INTENT "java/lang/Enum" "ordinal" "I" (.int (2 : Int32)) := Fld.start ((fld_at ev_INTENT).symm.trans (own_eqI hn_5))
  have F_INTENT_VERSION_ordinal : Fld s s.heap a_INTENT_VERSION "java/lang/Enum" "ordinal" "I" (.int (3 : Int32)) := Fld.start ((fld_at ev_INTENT_VERSION).symm.trans (own_eqI hr_6))
  obtain ⟨hsets, hown0⟩ := atoms_of _ (rest_1_c_eq ▸ (show rest_1_c.before _ s = true from hrest))
  obtain ⟨z0, evz⟩ := is_v (Cond.before_iff.mp (hsets _ (List.mem_of_getElem? (i := 1) rfl)))
  have S_CS : Sta s s.heap "java/lang/String" "COMPACT_STRINGS" "Z" (.int z0) := Sta.start evz (Or.inl (hsets _ (List.mem_of_getElem? (i := 0) rfl)))
  have hz : ¬ z0 = 0 := own_neI evz (Cond.before_iff.mp (hsets _ (List.mem_of_getElem? (i := 2) rfl)))
  obtain ⟨aI, evI⟩ := exa_v (Cond.before_iff.mp (hsets _ (List.mem_of_getElem? (i := 11) rfl)))
  have E_I : Exa s s.heap aI "java/lang/CharacterDataLatin1" := Exa.start evI (Cond.before_iff.mp (hsets _ (List.mem_of_getElem? (i := 11) rfl)))
  have S_I : Sta s s.heap "java/lang/CharacterDataLatin1" "instance" "Ljava/lang/CharacterDataLatin1;" (.ref aI) := Sta.start evI (Or.inl (hsets _ (List.mem_of_getElem? (i := 10) rfl)))
  obtain ⟨aA, evA⟩ := arr_v (Cond.before_iff.mp (hsets _ (List.mem_of_getElem? (i := 14) rfl)))
  obtain ⟨clA, ArA⟩ := Arr.start evA (Cond.before_iff.mp (hsets _ (List.mem_of_getElem? (i := 14) rfl)))
  have S_A : Sta s s.heap "java/lang/CharacterDataLatin1" "A" "[I" (.ref aA) := Sta.start evA (Or.inl (hsets _ (List.mem_of_getElem? (i := 13) rfl)))
  have hlA := own_len evA ArA (own_eqI (Cond.before_iff.mp (hsets _ (List.mem_of_getElem? (i := 16) rfl))))
  have Tb : Tab s s.heap aA clA .int (256 : Int32) := Tab.start hfit ArA (Or.inl rfl) hlA.1 hlA.2 (by decide)
  have h72 : ¬ (((atv clA (72 : Int32)) &&& (28672 : Int32)) = (16384 : Int32)) := by
    rw [atv_of (elem_in (own_eqI (Cond.before_iff.mp (hsets _ (List.mem_of_getElem? (i := 89) rfl)))) evA rfl ArA.1).2]
    decide
  obtain ⟨n, o, h1, h2, h3, _, L, rfl, ⟨rfl, N⟩, hq⟩ := rm0 l s _ hw tables_1 i0 i1 i2 i3 i4 i5 z0 aA clA aI a_HOLDER a_ACTOR a_INTENT a_INTENT_VERSION s.heap s.heap.size (Nat.le_refl _) S_CS S_A S_I E_I Tb h72 hz S_HOLDER S_ACTOR S_INTENT S_INTENT_VERSION E_HOLDER E_ACTOR E_INTENT E_INTENT_VERSION F_HOLDER_ordinal F_ACTOR_ordinal F_INTENT_ordinal F_INTENT_VERSION_ordinal p e ha hc hk s m _ below hf ((Spec.applies_iff_loose hf).mp happ).1 ⟨rfl, State.Warmed39.refl s, rfl⟩ trivial
  refine ⟨n, _, h1, h2, h3, hpost _ _ _ _ _ _ ⟨Cond.after_iff.mpr rfl, Cond.after_iff.mpr (eq_i res_at (Term.int_eval (1)) rfl), trivial⟩ ⟨hq.1, hq.2.1, hq.2.2.1, (hq.2.2.2.sift fun y hy => Or.inr (N y hy)).mono (by decide) (by decide)⟩⟩
theorem main_1_1 : Claimed_1_1 := comes_1 fun _ _ _ _ _ _ h hF => ⟨h.1, hF⟩
theorem main_1_2 : Claimed_1_2 := comes_1 fun _ _ _ _ _ _ h hF => ⟨h.2.1, hF⟩
end Jvm.Pilot.@@N@@
namespace Jvm.Pilot.@@N@@
open Jvm Jvm.ClassFile Sem Op Lib Jvm.Free Jvm.Stand Jvm.Pilot.@@N@@.Jvm.D
/-! MADE BY PROGRAM (witnessworld.py) out of the Statement's table words and the real class files: 25 classes; the members and pool entries that the words name. The judged class is class 1, her method 2. -/
namespace start1
open Jvm.ClassFile
def u (s : String) : CpInfo := .utf8 (stringToUtf16 s)
/-- a pool by its gaps: so many unusable entries, then the entry; so many at the end -/
def gap : Nat → List CpInfo → List CpInfo
  | 0, r => r
  | n + 1, r => .unusable :: gap n r
def poolList (es : List (Nat × CpInfo)) (last : Nat) : List CpInfo := es.foldr (fun e r => gap e.1 (e.2 :: r)) (gap last [])
def pool (es : List (Nat × CpInfo)) (last : Nat) : Array CpInfo := ⟨poolList es last⟩
def fileOf (pool : Array CpInfo) (this : Nat) (attrs : Array Attribute := #[]) (ms : Array MethodInfo := #[]) (fl : Nat := 33) (sup : Nat := 0) (ifs : Array Nat := #[]) (fds : Array FieldInfo := #[]) : ClassFile where
  minorVersion := 0
  majorVersion := 65
  constantPool := pool
  accessFlags := fl
  thisClass := this
  superClass := sup
  interfaces := ifs
  fields := fds
  methods := ms
  attributes := attrs
def plain (name : String) (sup : Option ClassId) : Class where
  name := name
  kind := .ordinary
  loader := none
  accessFlags := 33
  super := sup
  interfaces := #[]
  cf := none
  fields := #[]
  methods := #[]
  instanceTypes := #[]
  staticTypes := #[]
  resolved := #[]
  callSites := []
  init := .initialized
  statics := none
  mirror := none

def pool0 : Array CpInfo := pool [(5, u "<init>"), (0, u "()V"), (1, .class_ 10), (1, u "java/lang/Object")] 113

def k0c0 : Code := { maxStack := 0, maxLocals := 1, code := object_method_1_code, exceptionTable := #[], attributes := #[] }
def k0m0 : Method := { name := "<init>", desc := "()V", sig := { parameters := [], returnType := none }, accessFlags := 1, code := some k0c0 }
/-- java/lang/Object -/
def k0 : Class := { plain "java/lang/Object" none with
  accessFlags := 33
  interfaces := #[]
  cf := some (fileOf pool0 8 #[] #[{ accessFlags := 1, nameIndex := 5, descriptorIndex := 6, attributes := #[] }] 33 0 #[] #[])
  fields := #[]
  methods := #[k0m0]
  instanceTypes := #[]
  staticTypes := #[]
  resolved := Array.replicate 124 none
  statics := none }

def pool1 : Array CpInfo := pool [(2, .class_ 4), (1, u "java/lang/Object"), (0, u "<init>"), (0, u "()V"), (0, .class_ 8), (0, u "java/lang/String"), (0, .methodref 7 10), (0, .nameAndType 5 11), (0, u "([C)V"), (0, .methodref 13 14), (0, .class_ 15), (0, .nameAndType 16 17), (0, u "com/example/leasehold/leasehold/RecordedValueInPinLaw"), (0, u "two"), (0, u "(IC)Ljava/lang/String;"), (0, .class_ 19), (0, u "com/example/leasehold/leasehold/LeaseRequest"), (0, .methodref 21 22), (0, .class_ 23), (0, .nameAndType 24 25), (0, u "java/lang/Math"), (0, u "max"), (0, u "(JJ)J"), (0, .methodref 18 27), (0, .nameAndType 5 28), (0, u "(Ljava/lang/String;Ljava/lang/String;Ljava/lang/String;Ljava/lang/String;Ljava/lang/String;JJ)V"), (0, .fieldref 30 31), (0, .class_ 32), (0, .nameAndType 33 34), (0, u "com/example/leasehold/leasehold/RecordedValue"), (0, u "HOLDER"), (0, u "Lcom/example/leasehold/leasehold/RecordedValue;"), (0, .methodref 30 36), (0, .nameAndType 37 38), (0, u "in"), (0, u "(Lcom/example/leasehold/leasehold/LeaseRequest;)Ljava/lang/String;"), (0, .fieldref 30 40), (0, .nameAndType 41 34), (0, u "ACTOR"), (0, .fieldref 30 43), (0, .nameAndType 44 34), (0, u "INTENT"), (0, .fieldref 30 46), (0, .nameAndType 47 34), (0, u "INTENT_VERSION"), (0, .methodref 7 49), (0, .nameAndType 50 51), (0, u "equals"), (0, u "(Ljava/lang/Object;)Z"), (2, u "law"), (0, u "(IIIIJJ)Z")] 3

def k1m0 : Method := { name := "<init>", desc := "()V", sig := { parameters := [], returnType := none }, accessFlags := 1, code := none }
def k1c1 : Code := { maxStack := 4, maxLocals := 3, code := method_2_code, exceptionTable := #[], attributes := #[] }
def k1m1 : Method := { name := "two", desc := "(IC)Ljava/lang/String;", sig := { parameters := [.int, .char], returnType := some (.object "java/lang/String") }, accessFlags := 10, code := some k1c1 }
def k1c2 : Code := { maxStack := 13, maxLocals := 18, code := code, exceptionTable := #[], attributes := #[] }
def k1m2 : Method := { name := "law", desc := "(IIIIJJ)Z", sig := { parameters := [.int, .int, .int, .int, .long, .long], returnType := some .boolean }, accessFlags := 9, code := some k1c2 }
/-- com/example/leasehold/leasehold/RecordedValueInPinLaw -/
def k1 : Class := { plain "com/example/leasehold/leasehold/RecordedValueInPinLaw" (some 0) with
  accessFlags := 49
  interfaces := #[]
  cf := some (fileOf pool1 13 #[] #[{ accessFlags := 1, nameIndex := 5, descriptorIndex := 6, attributes := #[] }, { accessFlags := 10, nameIndex := 16, descriptorIndex := 17, attributes := #[] }, { accessFlags := 9, nameIndex := 54, descriptorIndex := 55, attributes := #[] }] 49 2 #[] #[])
  fields := #[]
  methods := #[k1m0, k1m1, k1m2]
  instanceTypes := #[]
  staticTypes := #[]
  resolved := Array.replicate 59 none
  statics := none }

def pool2 : Array CpInfo := pool [(1, .class_ 2), (0, u "java/io/Serializable"), (0, .class_ 4), (0, u "java/lang/Object")] 2

/-- java/io/Serializable -/
def k2 : Class := { plain "java/io/Serializable" (some 0) with
  accessFlags := 1537
  interfaces := #[]
  cf := some (fileOf pool2 1 #[] #[] 1537 3 #[] #[])
  fields := #[]
  methods := #[]
  instanceTypes := #[]
  staticTypes := #[]
  resolved := Array.replicate 7 none
  statics := none }

def pool3 : Array CpInfo := pool [(1, .class_ 2), (0, u "java/lang/Comparable"), (0, .class_ 4), (0, u "java/lang/Object")] 7

/-- java/lang/Comparable -/
def k3 : Class := { plain "java/lang/Comparable" (some 0) with
  accessFlags := 1537
  interfaces := #[]
  cf := some (fileOf pool3 1 #[] #[] 1537 3 #[] #[])
  fields := #[]
  methods := #[]
  instanceTypes := #[]
  staticTypes := #[]
  resolved := Array.replicate 12 none
  statics := none }

def pool4 : Array CpInfo := pool [(2, .class_ 4), (1, u "java/lang/CharSequence"), (42, .class_ 48), (0, u "java/lang/CharSequence$1CodePointIterator"), (10, .class_ 60), (0, u "java/lang/CharSequence$1CharIterator"), (5, .class_ 67), (0, u "java/lang/Object")] 63

/-- java/lang/CharSequence -/
def k4 : Class := { plain "java/lang/CharSequence" (some 0) with
  accessFlags := 1537
  interfaces := #[]
  cf := some (fileOf pool4 2 #[.nestMembers #[47, 59]] #[] 1537 66 #[] #[])
  fields := #[]
  methods := #[]
  instanceTypes := #[]
  staticTypes := #[]
  resolved := Array.replicate 131 none
  statics := none }

def pool5 : Array CpInfo := pool [(1, .class_ 2), (0, u "java/lang/constant/Constable"), (0, .class_ 4), (0, u "java/lang/Object")] 6

/-- java/lang/constant/Constable -/
def k5 : Class := { plain "java/lang/constant/Constable" (some 0) with
  accessFlags := 1537
  interfaces := #[]
  cf := some (fileOf pool5 1 #[] #[] 1537 3 #[] #[])
  fields := #[]
  methods := #[]
  instanceTypes := #[]
  staticTypes := #[]
  resolved := Array.replicate 11 none
  statics := none }

def pool6 : Array CpInfo := pool [(1, .class_ 2), (0, u "java/lang/constant/ConstantDesc"), (0, .class_ 4), (0, u "java/lang/Object")] 32

/-- java/lang/constant/ConstantDesc -/
def k6 : Class := { plain "java/lang/constant/ConstantDesc" (some 0) with
  accessFlags := 1537
  interfaces := #[]
  cf := some (fileOf pool6 1 #[] #[] 1537 3 #[] #[])
  fields := #[]
  methods := #[]
  instanceTypes := #[]
  staticTypes := #[]
  resolved := Array.replicate 37 none
  statics := none }

def pool7 : Array CpInfo := pool [(1, .methodref 2 3), (0, .class_ 4), (0, .nameAndType 5 6), (0, u "java/lang/Object"), (0, u "<init>"), (0, u "()V"), (2, .fieldref 10 11), (0, .class_ 12), (0, .nameAndType 13 14), (0, u "java/lang/String"), (0, u "value"), (0, u "[B"), (0, .fieldref 10 16), (0, .nameAndType 17 18), (0, u "coder"), (0, u "B"), (2, u "hash"), (0, u "I"), (2, u "hashIsZero"), (0, u "Z"), (0, .methodref 10 28), (0, .nameAndType 5 29), (0, u "([CIILjava/lang/Void;)V"), (8, .fieldref 10 39), (0, .nameAndType 40 26), (0, u "COMPACT_STRINGS"), (1, .class_ 44), (1, u "java/lang/StringUTF16"), (0, u "compress"), (1, .methodref 42 48), (0, .nameAndType 49 50), (0, u "coderFromArrayLen"), (0, u "([BI)B"), (56, .class_ 109), (1, u "java/lang/StringLatin1"), (32, u "()Z"), (34, .methodref 42 178), (0, .nameAndType 45 179), (0, u "([CII)[B"), (154, u "()I"), (0, .methodref 10 336), (0, .nameAndType 17 337), (0, u "()B"), (154, .methodref 10 493), (0, .nameAndType 494 142), (0, u "isLatin1"), (10, .methodref 10 506), (0, .nameAndType 507 334), (0, u "length"), (33, .methodref 107 542), (0, .nameAndType 543 544), (0, u "equals"), (0, u "([B[B)Z"), (28, u "(Ljava/lang/Object;)Z"), (1, .class_ 576), (0, u "java/lang/CharSequence"), (22, u "CASE_INSENSITIVE_ORDER"), (0, u "Ljava/util/Comparator;"), (30, u "([B)I"), (244, .methodref 10 877), (0, .nameAndType 878 334), (0, u "indexOfNonWhitespace"), (45, .methodref 107 925), (0, .nameAndType 878 631), (26, u "isBlank"), (57, u "([C)V"), (90, u "serialPersistentFields"), (0, u "[Ljava/io/ObjectStreamField;"), (0, .class_ 1104), (0, u "java/lang/String$CaseInsensitiveComparator"), (1, .class_ 1107), (0, u "java/io/Serializable"), (0, .class_ 1109), (0, u "java/lang/Comparable"), (0, .class_ 1111), (0, u "java/lang/constant/Constable"), (0, .class_ 1113), (0, u "java/lang/constant/ConstantDesc"), (2, u "serialVersionUID"), (0, u "J"), (3, u "REPL"), (0, u "C"), (2, u "LATIN1"), (1, u "UTF16")] 323

def k7m0 : Method := { name := "<init>", desc := "()V", sig := { parameters := [], returnType := none }, accessFlags := 1, code := none }
def k7c1 : Code := { maxStack := 5, maxLocals := 2, code := jdk_42_method_3_code, exceptionTable := #[], attributes := #[] }
def k7m1 : Method := { name := "<init>", desc := "([C)V", sig := { parameters := [(.array .char)], returnType := none }, accessFlags := 1, code := some k7c1 }
def k7c2 : Code := { maxStack := 2, maxLocals := 1, code := jdk_42_method_54_code, exceptionTable := #[], attributes := #[] }
def k7m2 : Method := { name := "length", desc := "()I", sig := { parameters := [], returnType := some .int }, accessFlags := 1, code := some k7c2 }
def k7c3 : Code := { maxStack := 2, maxLocals := 3, code := jdk_42_method_66_code, exceptionTable := #[], attributes := #[] }
def k7m3 : Method := { name := "equals", desc := "(Ljava/lang/Object;)Z", sig := { parameters := [(.object "java/lang/Object")], returnType := some .boolean }, accessFlags := 1, code := some k7c3 }
def k7c4 : Code := { maxStack := 2, maxLocals := 1, code := jdk_42_method_117_code, exceptionTable := #[], attributes := #[] }
def k7m4 : Method := { name := "isBlank", desc := "()Z", sig := { parameters := [], returnType := some .boolean }, accessFlags := 1, code := some k7c4 }
def k7c5 : Code := { maxStack := 1, maxLocals := 1, code := jdk_42_method_120_code, exceptionTable := #[], attributes := #[] }
def k7m5 : Method := { name := "indexOfNonWhitespace", desc := "()I", sig := { parameters := [], returnType := some .int }, accessFlags := 2, code := some k7c5 }
def k7c6 : Code := { maxStack := 4, maxLocals := 6, code := jdk_42_method_149_code, exceptionTable := #[], attributes := #[] }
def k7m6 : Method := { name := "<init>", desc := "([CIILjava/lang/Void;)V", sig := { parameters := [(.array .char), .int, .int, (.object "java/lang/Void")], returnType := none }, accessFlags := 2, code := some k7c6 }
def k7c7 : Code := { maxStack := 1, maxLocals := 1, code := jdk_42_method_152_code, exceptionTable := #[], attributes := #[] }
def k7m7 : Method := { name := "coder", desc := "()B", sig := { parameters := [], returnType := some .byte }, accessFlags := 0, code := some k7c7 }
def k7c8 : Code := { maxStack := 1, maxLocals := 1, code := jdk_42_method_154_code, exceptionTable := #[], attributes := #[] }
def k7m8 : Method := { name := "isLatin1", desc := "()Z", sig := { parameters := [], returnType := some .boolean }, accessFlags := 0, code := some k7c8 }
/-- java/lang/String -/
def k7 : Class := { plain "java/lang/String" (some 0) with
  accessFlags := 49
  interfaces := #[2, 3, 4, 5, 6]
  cf := some (fileOf pool7 10 #[.nestMembers #[1103]] #[{ accessFlags := 1, nameIndex := 5, descriptorIndex := 6, attributes := #[] }, { accessFlags := 1, nameIndex := 5, descriptorIndex := 1010, attributes := #[] }, { accessFlags := 1, nameIndex := 507, descriptorIndex := 334, attributes := #[] }, { accessFlags := 1, nameIndex := 543, descriptorIndex := 573, attributes := #[] }, { accessFlags := 1, nameIndex := 952, descriptorIndex := 142, attributes := #[] }, { accessFlags := 2, nameIndex := 878, descriptorIndex := 334, attributes := #[] }, { accessFlags := 2, nameIndex := 5, descriptorIndex := 29, attributes := #[] }, { accessFlags := 0, nameIndex := 17, descriptorIndex := 337, attributes := #[] }, { accessFlags := 0, nameIndex := 494, descriptorIndex := 142, attributes := #[] }] 49 2 #[1106, 1108, 575, 1110, 1112] #[{ accessFlags := 18, nameIndex := 13, descriptorIndex := 14, attributes := #[] }, { accessFlags := 18, nameIndex := 17, descriptorIndex := 18, attributes := #[] }, { accessFlags := 2, nameIndex := 21, descriptorIndex := 22, attributes := #[] }, { accessFlags := 2, nameIndex := 25, descriptorIndex := 26, attributes := #[] }, { accessFlags := 26, nameIndex := 1116, descriptorIndex := 1117, attributes := #[] }, { accessFlags := 24, nameIndex := 40, descriptorIndex := 26, attributes := #[] }, { accessFlags := 26, nameIndex := 1101, descriptorIndex := 1102, attributes := #[] }, { accessFlags := 26, nameIndex := 1121, descriptorIndex := 1122, attributes := #[] }, { accessFlags := 25, nameIndex := 599, descriptorIndex := 600, attributes := #[] }, { accessFlags := 24, nameIndex := 1125, descriptorIndex := 18, attributes := #[] }, { accessFlags := 24, nameIndex := 1127, descriptorIndex := 18, attributes := #[] }])
  fields := #[{ name := "value", type := (.array .byte), accessFlags := 18, slot := 0, constantValue := 0 }, { name := "coder", type := .byte, accessFlags := 18, slot := 1, constantValue := 0 }, { name := "hash", type := .int, accessFlags := 2, slot := 2, constantValue := 0 }, { name := "hashIsZero", type := .boolean, accessFlags := 2, slot := 3, constantValue := 0 }, { name := "serialVersionUID", type := .long, accessFlags := 26, slot := 0, constantValue := 0 }, { name := "COMPACT_STRINGS", type := .boolean, accessFlags := 24, slot := 1, constantValue := 0 }, { name := "serialPersistentFields", type := (.array (.object "java/io/ObjectStreamField")), accessFlags := 26, slot := 2, constantValue := 0 }, { name := "REPL", type := .char, accessFlags := 26, slot := 3, constantValue := 0 }, { name := "CASE_INSENSITIVE_ORDER", type := (.object "java/util/Comparator"), accessFlags := 25, slot := 4, constantValue := 0 }, { name := "LATIN1", type := .byte, accessFlags := 24, slot := 5, constantValue := 0 }, { name := "UTF16", type := .byte, accessFlags := 24, slot := 6, constantValue := 0 }]
  methods := #[k7m0, k7m1, k7m2, k7m3, k7m4, k7m5, k7m6, k7m7, k7m8]
  instanceTypes := #[(.array .byte), .byte, .int, .boolean]
  staticTypes := #[.long, .boolean, (.array (.object "java/io/ObjectStreamField")), .char, (.object "java/util/Comparator"), .byte, .byte]
  resolved := Array.replicate 1451 none
  statics := some 0 }

def pool8 : Array CpInfo := pool [(6, .class_ 8), (1, u "java/lang/Object"), (0, u "<init>"), (0, u "()V"), (1, .class_ 14), (1, u "java/lang/StringUTF16"), (31, u "$assertionsDisabled"), (0, u "Z"), (13, u "HI_BYTE_SHIFT"), (0, u "I"), (2, u "LO_BYTE_SHIFT"), (49, .methodref 12 116), (0, .nameAndType 117 118), (0, u "compress"), (0, u "([CI[BII)I"), (3, u "([CII)[B"), (138, u "coderFromArrayLen"), (0, u "([BI)B"), (106, .class_ 371), (1, u "java/lang/StringUTF16$LinesSpliterator"), (58, u "MAX_LENGTH"), (196, .class_ 628), (0, u "java/lang/StringUTF16$CodePointsSpliterator"), (0, .class_ 630), (0, u "java/lang/StringUTF16$CharsSpliterator")] 4

def k8m0 : Method := { name := "<init>", desc := "()V", sig := { parameters := [], returnType := none }, accessFlags := 0, code := none }
def k8c1 : Code := { maxStack := 2, maxLocals := 2, code := jdk_52_method_15_code, exceptionTable := #[], attributes := #[] }
def k8m1 : Method := { name := "coderFromArrayLen", desc := "([BI)B", sig := { parameters := [(.array .byte), .int], returnType := some .byte }, accessFlags := 8, code := some k8c1 }
def k8c2 : Code := { maxStack := 5, maxLocals := 6, code := jdk_52_method_16_code, exceptionTable := #[], attributes := #[] }
def k8m2 : Method := { name := "compress", desc := "([CII)[B", sig := { parameters := [(.array .char), .int, .int], returnType := some (.array .byte) }, accessFlags := 9, code := some k8c2 }
def k8c3 : Code := { maxStack := 3, maxLocals := 7, code := jdk_52_method_21_code, exceptionTable := #[], attributes := #[] }
def k8m3 : Method := { name := "compress", desc := "([CI[BII)I", sig := { parameters := [(.array .char), .int, (.array .byte), .int, .int], returnType := some .int }, accessFlags := 9, code := some k8c3 }
/-- java/lang/StringUTF16 -/
def k8 : Class := { plain "java/lang/StringUTF16" (some 0) with
  accessFlags := 48
  interfaces := #[]
  cf := some (fileOf pool8 12 #[.nestMembers #[627, 629, 369]] #[{ accessFlags := 0, nameIndex := 9, descriptorIndex := 10, attributes := #[] }, { accessFlags := 8, nameIndex := 261, descriptorIndex := 262, attributes := #[] }, { accessFlags := 9, nameIndex := 117, descriptorIndex := 122, attributes := #[] }, { accessFlags := 9, nameIndex := 117, descriptorIndex := 118, attributes := #[] }] 48 6 #[] #[{ accessFlags := 26, nameIndex := 61, descriptorIndex := 62, attributes := #[] }, { accessFlags := 26, nameIndex := 65, descriptorIndex := 62, attributes := #[] }, { accessFlags := 24, nameIndex := 430, descriptorIndex := 62, attributes := #[] }, { accessFlags := 4120, nameIndex := 46, descriptorIndex := 47, attributes := #[] }])
  fields := #[{ name := "HI_BYTE_SHIFT", type := .int, accessFlags := 26, slot := 0, constantValue := 0 }, { name := "LO_BYTE_SHIFT", type := .int, accessFlags := 26, slot := 1, constantValue := 0 }, { name := "MAX_LENGTH", type := .int, accessFlags := 24, slot := 2, constantValue := 0 }, { name := "$assertionsDisabled", type := .boolean, accessFlags := 4120, slot := 3, constantValue := 0 }]
  methods := #[k8m0, k8m1, k8m2, k8m3]
  instanceTypes := #[]
  staticTypes := #[.int, .int, .int, .boolean]
  resolved := Array.replicate 635 none
  statics := none }

def pool9 : Array CpInfo := pool [(1, .methodref 2 3), (0, .class_ 4), (0, .nameAndType 5 6), (0, u "java/lang/Object"), (0, u "<init>"), (0, u "()V"), (0, .methodref 8 9), (0, .class_ 10), (0, .nameAndType 11 12), (0, u "com/example/leasehold/leasehold/LeaseRequest"), (0, u "isValidHolder"), (0, u "(Ljava/lang/String;)Z"), (7, .methodref 8 21), (0, .nameAndType 22 23), (0, u "isValidTtl"), (0, u "(J)Z"), (9, .class_ 35), (1, u "java/lang/String"), (2, .fieldref 8 39), (0, .nameAndType 40 41), (0, u "holder"), (0, u "Ljava/lang/String;"), (0, .string 43), (0, u "Actor must not be null"), (0, .methodref 45 46), (0, .class_ 47), (0, .nameAndType 48 49), (0, u "java/util/Objects"), (0, u "requireNonNull"), (0, u "(Ljava/lang/Object;Ljava/lang/String;)Ljava/lang/Object;"), (0, .fieldref 8 51), (0, .nameAndType 52 41), (0, u "actor"), (0, .string 54), (0, u "Intent must not be null"), (0, .fieldref 8 56), (0, .nameAndType 57 41), (0, u "intent"), (0, .string 59), (0, u "Intent version must not be null"), (0, .fieldref 8 61), (0, .nameAndType 62 41), (0, u "intentVersion"), (0, .string 64), (0, u "Host id must not be null"), (0, .fieldref 8 66), (0, .nameAndType 67 41), (0, u "hostId"), (0, .fieldref 8 69), (0, .nameAndType 70 71), (0, u "pid"), (0, u "J"), (0, .fieldref 8 73), (0, .nameAndType 74 71), (0, u "ttlSeconds"), (0, .methodref 33 76), (0, .nameAndType 77 78), (0, u "isBlank"), (0, u "()Z"), (45, u "(Ljava/lang/String;Ljava/lang/String;Ljava/lang/String;Ljava/lang/String;Ljava/lang/String;JJ)V"), (0, u "MAX_RECORDED_BYTES"), (0, u "I"), (11, u "()Ljava/lang/String;")] 3

def k9c0 : Code := { maxStack := 8, maxLocals := 10, code := prog_13_method_1_code, exceptionTable := #[], attributes := #[] }
def k9m0 : Method := { name := "<init>", desc := "(Ljava/lang/String;Ljava/lang/String;Ljava/lang/String;Ljava/lang/String;Ljava/lang/String;JJ)V", sig := { parameters := [(.object "java/lang/String"), (.object "java/lang/String"), (.object "java/lang/String"), (.object "java/lang/String"), (.object "java/lang/String"), .long, .long], returnType := none }, accessFlags := 0, code := some k9c0 }
def k9c1 : Code := { maxStack := 1, maxLocals := 1, code := prog_13_method_2_code, exceptionTable := #[], attributes := #[] }
def k9m1 : Method := { name := "isValidHolder", desc := "(Ljava/lang/String;)Z", sig := { parameters := [(.object "java/lang/String")], returnType := some .boolean }, accessFlags := 8, code := some k9c1 }
def k9c2 : Code := { maxStack := 4, maxLocals := 2, code := prog_13_method_3_code, exceptionTable := #[], attributes := #[] }
def k9m2 : Method := { name := "isValidTtl", desc := "(J)Z", sig := { parameters := [.long], returnType := some .boolean }, accessFlags := 8, code := some k9c2 }
def k9c3 : Code := { maxStack := 1, maxLocals := 1, code := prog_13_method_9_code, exceptionTable := #[], attributes := #[] }
def k9m3 : Method := { name := "holder", desc := "()Ljava/lang/String;", sig := { parameters := [], returnType := some (.object "java/lang/String") }, accessFlags := 0, code := some k9c3 }
def k9c4 : Code := { maxStack := 1, maxLocals := 1, code := prog_13_method_10_code, exceptionTable := #[], attributes := #[] }
def k9m4 : Method := { name := "actor", desc := "()Ljava/lang/String;", sig := { parameters := [], returnType := some (.object "java/lang/String") }, accessFlags := 0, code := some k9c4 }
def k9c5 : Code := { maxStack := 1, maxLocals := 1, code := prog_13_method_11_code, exceptionTable := #[], attributes := #[] }
def k9m5 : Method := { name := "intent", desc := "()Ljava/lang/String;", sig := { parameters := [], returnType := some (.object "java/lang/String") }, accessFlags := 0, code := some k9c5 }
def k9c6 : Code := { maxStack := 1, maxLocals := 1, code := prog_13_method_12_code, exceptionTable := #[], attributes := #[] }
def k9m6 : Method := { name := "intentVersion", desc := "()Ljava/lang/String;", sig := { parameters := [], returnType := some (.object "java/lang/String") }, accessFlags := 0, code := some k9c6 }
/-- com/example/leasehold/leasehold/LeaseRequest -/
def k9 : Class := { plain "com/example/leasehold/leasehold/LeaseRequest" (some 0) with
  accessFlags := 48
  interfaces := #[]
  cf := some (fileOf pool9 8 #[] #[{ accessFlags := 0, nameIndex := 5, descriptorIndex := 124, attributes := #[] }, { accessFlags := 8, nameIndex := 11, descriptorIndex := 12, attributes := #[] }, { accessFlags := 8, nameIndex := 22, descriptorIndex := 23, attributes := #[] }, { accessFlags := 0, nameIndex := 40, descriptorIndex := 138, attributes := #[] }, { accessFlags := 0, nameIndex := 52, descriptorIndex := 138, attributes := #[] }, { accessFlags := 0, nameIndex := 57, descriptorIndex := 138, attributes := #[] }, { accessFlags := 0, nameIndex := 62, descriptorIndex := 138, attributes := #[] }] 48 2 #[] #[{ accessFlags := 24, nameIndex := 125, descriptorIndex := 126, attributes := #[] }, { accessFlags := 18, nameIndex := 40, descriptorIndex := 41, attributes := #[] }, { accessFlags := 18, nameIndex := 52, descriptorIndex := 41, attributes := #[] }, { accessFlags := 18, nameIndex := 57, descriptorIndex := 41, attributes := #[] }, { accessFlags := 18, nameIndex := 62, descriptorIndex := 41, attributes := #[] }, { accessFlags := 18, nameIndex := 67, descriptorIndex := 41, attributes := #[] }, { accessFlags := 18, nameIndex := 70, descriptorIndex := 71, attributes := #[] }, { accessFlags := 18, nameIndex := 74, descriptorIndex := 71, attributes := #[] }])
  fields := #[{ name := "MAX_RECORDED_BYTES", type := .int, accessFlags := 24, slot := 0, constantValue := 0 }, { name := "holder", type := (.object "java/lang/String"), accessFlags := 18, slot := 0, constantValue := 0 }, { name := "actor", type := (.object "java/lang/String"), accessFlags := 18, slot := 1, constantValue := 0 }, { name := "intent", type := (.object "java/lang/String"), accessFlags := 18, slot := 2, constantValue := 0 }, { name := "intentVersion", type := (.object "java/lang/String"), accessFlags := 18, slot := 3, constantValue := 0 }, { name := "hostId", type := (.object "java/lang/String"), accessFlags := 18, slot := 4, constantValue := 0 }, { name := "pid", type := .long, accessFlags := 18, slot := 5, constantValue := 0 }, { name := "ttlSeconds", type := .long, accessFlags := 18, slot := 6, constantValue := 0 }]
  methods := #[k9m0, k9m1, k9m2, k9m3, k9m4, k9m5, k9m6]
  instanceTypes := #[(.object "java/lang/String"), (.object "java/lang/String"), (.object "java/lang/String"), (.object "java/lang/String"), (.object "java/lang/String"), .long, .long]
  staticTypes := #[.int]
  resolved := Array.replicate 142 none
  statics := none }

def pool10 : Array CpInfo := pool [(1, .class_ 2), (0, u "java/lang/Math"), (1, .class_ 6), (1, u "java/lang/Object"), (0, u "<init>"), (0, u "()V"), (89, .class_ 100), (1, u "java/lang/Math$RandomNumberGeneratorHolder"), (20, u "(JJ)J"), (50, u "negativeZeroFloatBits"), (0, u "J"), (2, u "negativeZeroDoubleBits"), (21, u "max"), (46, u "$assertionsDisabled"), (0, u "Z"), (91, u "twoToTheDoubleScaleDown"), (0, u "D"), (4, u "twoToTheDoubleScaleUp"), (9, u "E"), (3, u "PI"), (2, u "TAU"), (2, u "DEGREES_TO_RADIANS"), (0, u "RADIANS_TO_DEGREES")] 94

def k10m0 : Method := { name := "<init>", desc := "()V", sig := { parameters := [], returnType := none }, accessFlags := 2, code := none }
def k10c1 : Code := { maxStack := 4, maxLocals := 4, code := jdk_29_method_66_code, exceptionTable := #[], attributes := #[] }
def k10m1 : Method := { name := "max", desc := "(JJ)J", sig := { parameters := [.long, .long], returnType := some .long }, accessFlags := 9, code := some k10c1 }
/-- java/lang/Math -/
def k10 : Class := { plain "java/lang/Math" (some 0) with
  accessFlags := 49
  interfaces := #[]
  cf := some (fileOf pool10 1 #[.nestMembers #[98]] #[{ accessFlags := 2, nameIndex := 7, descriptorIndex := 8, attributes := #[] }, { accessFlags := 9, nameIndex := 198, descriptorIndex := 121, attributes := #[] }] 49 4 #[] #[{ accessFlags := 25, nameIndex := 354, descriptorIndex := 339, attributes := #[] }, { accessFlags := 25, nameIndex := 358, descriptorIndex := 339, attributes := #[] }, { accessFlags := 25, nameIndex := 361, descriptorIndex := 339, attributes := #[] }, { accessFlags := 26, nameIndex := 364, descriptorIndex := 339, attributes := #[] }, { accessFlags := 26, nameIndex := 365, descriptorIndex := 339, attributes := #[] }, { accessFlags := 26, nameIndex := 172, descriptorIndex := 173, attributes := #[] }, { accessFlags := 26, nameIndex := 176, descriptorIndex := 173, attributes := #[] }, { accessFlags := 8, nameIndex := 344, descriptorIndex := 339, attributes := #[] }, { accessFlags := 8, nameIndex := 338, descriptorIndex := 339, attributes := #[] }, { accessFlags := 4120, nameIndex := 245, descriptorIndex := 246, attributes := #[] }])
  fields := #[{ name := "E", type := .double, accessFlags := 25, slot := 0, constantValue := 0 }, { name := "PI", type := .double, accessFlags := 25, slot := 1, constantValue := 0 }, { name := "TAU", type := .double, accessFlags := 25, slot := 2, constantValue := 0 }, { name := "DEGREES_TO_RADIANS", type := .double, accessFlags := 26, slot := 3, constantValue := 0 }, { name := "RADIANS_TO_DEGREES", type := .double, accessFlags := 26, slot := 4, constantValue := 0 }, { name := "negativeZeroFloatBits", type := .long, accessFlags := 26, slot := 5, constantValue := 0 }, { name := "negativeZeroDoubleBits", type := .long, accessFlags := 26, slot := 6, constantValue := 0 }, { name := "twoToTheDoubleScaleUp", type := .double, accessFlags := 8, slot := 7, constantValue := 0 }, { name := "twoToTheDoubleScaleDown", type := .double, accessFlags := 8, slot := 8, constantValue := 0 }, { name := "$assertionsDisabled", type := .boolean, accessFlags := 4120, slot := 9, constantValue := 0 }]
  methods := #[k10m0, k10m1]
  instanceTypes := #[]
  staticTypes := #[.double, .double, .double, .double, .double, .long, .long, .double, .double, .boolean]
  resolved := Array.replicate 460 none
  statics := none }

def pool11 : Array CpInfo := pool [(4, .class_ 6), (1, u "java/lang/Object"), (0, u "<init>"), (0, u "()V"), (5, .class_ 16), (1, u "java/lang/StringLatin1"), (33, .methodref 14 51), (0, .nameAndType 52 53), (0, u "getChar"), (0, u "([BI)C"), (3, u "([B)I"), (8, .fieldref 67 68), (0, .class_ 69), (0, .nameAndType 70 71), (0, u "java/lang/CharacterDataLatin1"), (0, u "instance"), (0, u "Ljava/lang/CharacterDataLatin1;"), (19, u "(I)Z"), (29, u "$assertionsDisabled"), (0, u "Z"), (88, .methodref 67 212), (0, .nameAndType 213 91), (0, u "isWhitespace"), (2, u "indexOfNonWhitespace"), (4, .class_ 223), (1, u "java/lang/StringLatin1$LinesSpliterator"), (57, u "equals"), (0, u "([B[B)Z"), (107, .class_ 391), (0, u "java/lang/StringLatin1$CharsSpliterator")] 3

def k11m0 : Method := { name := "<init>", desc := "()V", sig := { parameters := [], returnType := none }, accessFlags := 0, code := none }
def k11c1 : Code := { maxStack := 3, maxLocals := 3, code := jdk_43_method_13_code, exceptionTable := #[], attributes := #[] }
def k11m1 : Method := { name := "equals", desc := "([B[B)Z", sig := { parameters := [(.array .byte), (.array .byte)], returnType := some .boolean }, accessFlags := 9, code := some k11c1 }
def k11c2 : Code := { maxStack := 2, maxLocals := 4, code := jdk_43_method_37_code, exceptionTable := #[], attributes := #[] }
def k11m2 : Method := { name := "indexOfNonWhitespace", desc := "([B)I", sig := { parameters := [(.array .byte)], returnType := some .int }, accessFlags := 9, code := some k11c2 }
def k11c3 : Code := { maxStack := 2, maxLocals := 2, code := jdk_43_method_44_code, exceptionTable := #[], attributes := #[] }
def k11m3 : Method := { name := "getChar", desc := "([BI)C", sig := { parameters := [(.array .byte), .int], returnType := some .char }, accessFlags := 9, code := some k11c3 }
/-- java/lang/StringLatin1 -/
def k11 : Class := { plain "java/lang/StringLatin1" (some 0) with
  accessFlags := 48
  interfaces := #[]
  cf := some (fileOf pool11 14 #[.nestMembers #[390, 221]] #[{ accessFlags := 0, nameIndex := 7, descriptorIndex := 8, attributes := #[] }, { accessFlags := 9, nameIndex := 281, descriptorIndex := 282, attributes := #[] }, { accessFlags := 9, nameIndex := 216, descriptorIndex := 57, attributes := #[] }, { accessFlags := 9, nameIndex := 52, descriptorIndex := 53, attributes := #[] }] 48 4 #[] #[{ accessFlags := 4120, nameIndex := 121, descriptorIndex := 122, attributes := #[] }])
  fields := #[{ name := "$assertionsDisabled", type := .boolean, accessFlags := 4120, slot := 0, constantValue := 0 }]
  methods := #[k11m0, k11m1, k11m2, k11m3]
  instanceTypes := #[]
  staticTypes := #[.boolean]
  resolved := Array.replicate 395 none
  statics := none }

def pool12 : Array CpInfo := pool [(2, .class_ 4), (1, u "java/lang/Object"), (0, u "<init>"), (0, u "()V"), (1, .class_ 10), (1, u "java/lang/CharacterData")] 75

def k12m0 : Method := { name := "<init>", desc := "()V", sig := { parameters := [], returnType := none }, accessFlags := 0, code := none }
/-- java/lang/CharacterData -/
def k12 : Class := { plain "java/lang/CharacterData" (some 0) with
  accessFlags := 1056
  interfaces := #[]
  cf := some (fileOf pool12 8 #[] #[{ accessFlags := 0, nameIndex := 5, descriptorIndex := 6, attributes := #[] }] 1056 2 #[] #[])
  fields := #[]
  methods := #[k12m0]
  instanceTypes := #[]
  staticTypes := #[]
  resolved := Array.replicate 86 none
  statics := none }

def pool13 : Array CpInfo := pool [(1, .fieldref 2 3), (0, .class_ 4), (0, .nameAndType 5 6), (0, u "java/lang/CharacterDataLatin1"), (0, u "A"), (0, u "[I"), (2, u "B"), (0, u "[C"), (3, u "(I)I"), (0, .methodref 2 16), (0, .nameAndType 17 14), (0, u "getProperties"), (3, u "(I)Z"), (5, u "DIGITS"), (0, u "[B"), (8, u "sharpsMap"), (1, .class_ 41), (1, u "java/lang/CharacterData"), (0, u "<init>"), (0, u "()V"), (3, u "instance"), (0, u "Ljava/lang/CharacterDataLatin1;"), (78, u "isWhitespace")] 13

def k13c0 : Code := { maxStack := 2, maxLocals := 4, code := jdk_116_method_1_code, exceptionTable := #[], attributes := #[] }
def k13m0 : Method := { name := "getProperties", desc := "(I)I", sig := { parameters := [.int], returnType := some .int }, accessFlags := 0, code := some k13c0 }
def k13c1 : Code := { maxStack := 2, maxLocals := 3, code := jdk_116_method_26_code, exceptionTable := #[], attributes := #[] }
def k13m1 : Method := { name := "isWhitespace", desc := "(I)Z", sig := { parameters := [.int], returnType := some .boolean }, accessFlags := 0, code := some k13c1 }
def k13m2 : Method := { name := "<init>", desc := "()V", sig := { parameters := [], returnType := none }, accessFlags := 2, code := none }
/-- java/lang/CharacterDataLatin1 -/
def k13 : Class := { plain "java/lang/CharacterDataLatin1" (some 12) with
  accessFlags := 32
  interfaces := #[]
  cf := some (fileOf pool13 2 #[] #[{ accessFlags := 0, nameIndex := 17, descriptorIndex := 14, attributes := #[] }, { accessFlags := 0, nameIndex := 127, descriptorIndex := 21, attributes := #[] }, { accessFlags := 2, nameIndex := 42, descriptorIndex := 43, attributes := #[] }] 32 39 #[] #[{ accessFlags := 26, nameIndex := 27, descriptorIndex := 28, attributes := #[] }, { accessFlags := 8, nameIndex := 37, descriptorIndex := 10, attributes := #[] }, { accessFlags := 24, nameIndex := 47, descriptorIndex := 48, attributes := #[] }, { accessFlags := 24, nameIndex := 5, descriptorIndex := 6, attributes := #[] }, { accessFlags := 24, nameIndex := 9, descriptorIndex := 10, attributes := #[] }])
  fields := #[{ name := "DIGITS", type := (.array .byte), accessFlags := 26, slot := 0, constantValue := 0 }, { name := "sharpsMap", type := (.array .char), accessFlags := 8, slot := 1, constantValue := 0 }, { name := "instance", type := (.object "java/lang/CharacterDataLatin1"), accessFlags := 24, slot := 2, constantValue := 0 }, { name := "A", type := (.array .int), accessFlags := 24, slot := 3, constantValue := 0 }, { name := "B", type := (.array .char), accessFlags := 24, slot := 4, constantValue := 0 }]
  methods := #[k13m0, k13m1, k13m2]
  instanceTypes := #[]
  staticTypes := #[(.array .byte), (.array .char), (.object "java/lang/CharacterDataLatin1"), (.array .int), (.array .char)]
  resolved := Array.replicate 141 none
  statics := some 1 }

def pool14 : Array CpInfo := pool [(2, .class_ 4), (1, u "java/lang/Object"), (0, u "<init>"), (0, u "()V"), (35, .class_ 44), (1, u "java/util/Objects"), (0, u "requireNonNull"), (48, u "(Ljava/lang/Object;Ljava/lang/String;)Ljava/lang/Object;")] 89

def k14m0 : Method := { name := "<init>", desc := "()V", sig := { parameters := [], returnType := none }, accessFlags := 2, code := none }
def k14c1 : Code := { maxStack := 3, maxLocals := 2, code := jdk_31_method_11_code, exceptionTable := #[], attributes := #[] }
def k14m1 : Method := { name := "requireNonNull", desc := "(Ljava/lang/Object;Ljava/lang/String;)Ljava/lang/Object;", sig := { parameters := [(.object "java/lang/Object"), (.object "java/lang/String")], returnType := some (.object "java/lang/Object") }, accessFlags := 9, code := some k14c1 }
/-- java/util/Objects -/
def k14 : Class := { plain "java/util/Objects" (some 0) with
  accessFlags := 49
  interfaces := #[]
  cf := some (fileOf pool14 42 #[] #[{ accessFlags := 2, nameIndex := 5, descriptorIndex := 6, attributes := #[] }, { accessFlags := 9, nameIndex := 45, descriptorIndex := 94, attributes := #[] }] 49 2 #[] #[])
  fields := #[]
  methods := #[k14m0, k14m1]
  instanceTypes := #[]
  staticTypes := #[]
  resolved := Array.replicate 184 none
  statics := none }

def pool15 : Array CpInfo := pool [(2, .class_ 4), (1, u "java/lang/Enum"), (0, u "name"), (0, u "Ljava/lang/String;"), (0, .fieldref 2 8), (0, .nameAndType 9 10), (0, u "ordinal"), (0, u "I"), (1, .class_ 14), (1, u "java/lang/Object"), (4, u "hash"), (86, .class_ 108), (1, u "java/lang/Enum$EnumDesc"), (2, .class_ 112), (0, u "java/lang/constant/Constable"), (0, .class_ 114), (0, u "java/lang/Comparable"), (0, .class_ 116), (0, u "java/io/Serializable"), (9, u "()I")] 77

def k15c0 : Code := { maxStack := 1, maxLocals := 1, code := jdk_37_method_2_code, exceptionTable := #[], attributes := #[] }
def k15m0 : Method := { name := "ordinal", desc := "()I", sig := { parameters := [], returnType := some .int }, accessFlags := 17, code := some k15c0 }
/-- java/lang/Enum -/
def k15 : Class := { plain "java/lang/Enum" (some 0) with
  accessFlags := 1057
  interfaces := #[5, 3, 2]
  cf := some (fileOf pool15 2 #[.nestMembers #[106]] #[{ accessFlags := 17, nameIndex := 9, descriptorIndex := 126, attributes := #[] }] 1057 12 #[111, 113, 115] #[{ accessFlags := 18, nameIndex := 5, descriptorIndex := 6, attributes := #[] }, { accessFlags := 18, nameIndex := 9, descriptorIndex := 10, attributes := #[] }, { accessFlags := 2, nameIndex := 19, descriptorIndex := 10, attributes := #[] }])
  fields := #[{ name := "name", type := (.object "java/lang/String"), accessFlags := 18, slot := 0, constantValue := 0 }, { name := "ordinal", type := .int, accessFlags := 18, slot := 1, constantValue := 0 }, { name := "hash", type := .int, accessFlags := 2, slot := 2, constantValue := 0 }]
  methods := #[k15m0]
  instanceTypes := #[(.object "java/lang/String"), .int, .int]
  staticTypes := #[]
  resolved := Array.replicate 204 none
  statics := none }

def pool16 : Array CpInfo := pool [(1, .class_ 2), (0, u "com/example/leasehold/leasehold/RecordedValue"), (2, u "HOLDER"), (0, u "Lcom/example/leasehold/leasehold/RecordedValue;"), (2, u "ACTOR"), (2, u "INTENT"), (2, u "INTENT_VERSION"), (2, u "$VALUES"), (0, u "[Lcom/example/leasehold/leasehold/RecordedValue;"), (6, .class_ 28), (1, u "java/lang/Enum"), (8, u "label"), (0, u "Ljava/lang/String;"), (2, u "option"), (0, .methodref 1 43), (0, .nameAndType 44 45), (0, u "ordinal"), (0, u "()I"), (5, .methodref 52 53), (0, .class_ 54), (0, .nameAndType 55 56), (0, u "com/example/leasehold/leasehold/LeaseRequest"), (0, u "holder"), (0, u "()Ljava/lang/String;"), (0, .methodref 52 58), (0, .nameAndType 59 56), (0, u "actor"), (0, .methodref 52 61), (0, .nameAndType 62 56), (0, u "intent"), (0, .methodref 52 64), (0, .nameAndType 65 56), (0, u "intentVersion"), (34, u "in"), (0, u "(Lcom/example/leasehold/leasehold/LeaseRequest;)Ljava/lang/String;")] 8

def k16c0 : Code := { maxStack := 4, maxLocals := 2, code := prog_28_method_6_code, exceptionTable := #[], attributes := #[] }
def k16m0 : Method := { name := "in", desc := "(Lcom/example/leasehold/leasehold/LeaseRequest;)Ljava/lang/String;", sig := { parameters := [(.object "com/example/leasehold/leasehold/LeaseRequest")], returnType := some (.object "java/lang/String") }, accessFlags := 0, code := some k16c0 }
/-- com/example/leasehold/leasehold/RecordedValue -/
def k16 : Class := { plain "com/example/leasehold/leasehold/RecordedValue" (some 15) with
  accessFlags := 16432
  interfaces := #[]
  cf := some (fileOf pool16 1 #[] #[{ accessFlags := 0, nameIndex := 100, descriptorIndex := 101, attributes := #[] }] 16432 26 #[] #[{ accessFlags := 16409, nameIndex := 5, descriptorIndex := 6, attributes := #[] }, { accessFlags := 16409, nameIndex := 9, descriptorIndex := 6, attributes := #[] }, { accessFlags := 16409, nameIndex := 12, descriptorIndex := 6, attributes := #[] }, { accessFlags := 16409, nameIndex := 15, descriptorIndex := 6, attributes := #[] }, { accessFlags := 18, nameIndex := 37, descriptorIndex := 38, attributes := #[] }, { accessFlags := 18, nameIndex := 41, descriptorIndex := 38, attributes := #[] }, { accessFlags := 4122, nameIndex := 18, descriptorIndex := 19, attributes := #[] }])
  fields := #[{ name := "HOLDER", type := (.object "com/example/leasehold/leasehold/RecordedValue"), accessFlags := 16409, slot := 0, constantValue := 0 }, { name := "ACTOR", type := (.object "com/example/leasehold/leasehold/RecordedValue"), accessFlags := 16409, slot := 1, constantValue := 0 }, { name := "INTENT", type := (.object "com/example/leasehold/leasehold/RecordedValue"), accessFlags := 16409, slot := 2, constantValue := 0 }, { name := "INTENT_VERSION", type := (.object "com/example/leasehold/leasehold/RecordedValue"), accessFlags := 16409, slot := 3, constantValue := 0 }, { name := "label", type := (.object "java/lang/String"), accessFlags := 18, slot := 3, constantValue := 0 }, { name := "option", type := (.object "java/lang/String"), accessFlags := 18, slot := 4, constantValue := 0 }, { name := "$VALUES", type := (.array (.object "com/example/leasehold/leasehold/RecordedValue")), accessFlags := 4122, slot := 4, constantValue := 0 }]
  methods := #[k16m0]
  instanceTypes := #[(.object "java/lang/String"), .int, .int, (.object "java/lang/String"), (.object "java/lang/String")]
  staticTypes := #[(.object "com/example/leasehold/leasehold/RecordedValue"), (.object "com/example/leasehold/leasehold/RecordedValue"), (.object "com/example/leasehold/leasehold/RecordedValue"), (.object "com/example/leasehold/leasehold/RecordedValue"), (.array (.object "com/example/leasehold/leasehold/RecordedValue"))]
  resolved := Array.replicate 110 none
  statics := some 2 }

def pool17 : Array CpInfo := pool [(2, .class_ 4), (1, u "java/lang/Object"), (0, u "<init>"), (0, u "()V"), (17, .class_ 26), (1, u "jdk/internal/util/Preconditions"), (28, .class_ 56), (0, u "jdk/internal/util/Preconditions$4"), (57, .class_ 115), (0, u "jdk/internal/util/Preconditions$1"), (7, u "SIOOBE_FORMATTER"), (0, u "Ljava/util/function/BiFunction;"), (0, .class_ 126), (0, u "jdk/internal/util/Preconditions$2"), (3, u "AIOOBE_FORMATTER"), (0, .class_ 132), (0, u "jdk/internal/util/Preconditions$3"), (3, u "IOOBE_FORMATTER")] 57

def k17m0 : Method := { name := "<init>", desc := "()V", sig := { parameters := [], returnType := none }, accessFlags := 1, code := none }
/-- jdk/internal/util/Preconditions -/
def k17 : Class := { plain "jdk/internal/util/Preconditions" (some 0) with
  accessFlags := 33
  interfaces := #[]
  cf := some (fileOf pool17 24 #[.nestMembers #[55, 131, 125, 114]] #[{ accessFlags := 1, nameIndex := 5, descriptorIndex := 6, attributes := #[] }] 33 2 #[] #[{ accessFlags := 25, nameIndex := 123, descriptorIndex := 124, attributes := #[] }, { accessFlags := 25, nameIndex := 130, descriptorIndex := 124, attributes := #[] }, { accessFlags := 25, nameIndex := 136, descriptorIndex := 124, attributes := #[] }])
  fields := #[{ name := "SIOOBE_FORMATTER", type := (.object "java/util/function/BiFunction"), accessFlags := 25, slot := 0, constantValue := 0 }, { name := "AIOOBE_FORMATTER", type := (.object "java/util/function/BiFunction"), accessFlags := 25, slot := 1, constantValue := 0 }, { name := "IOOBE_FORMATTER", type := (.object "java/util/function/BiFunction"), accessFlags := 25, slot := 2, constantValue := 0 }]
  methods := #[k17m0]
  instanceTypes := #[]
  staticTypes := #[(.object "java/util/function/BiFunction"), (.object "java/util/function/BiFunction"), (.object "java/util/function/BiFunction")]
  resolved := Array.replicate 194 none
  statics := some 3 }

def pool18 : Array CpInfo := pool [(1, u "java/lang/Cloneable"), (0, .class_ 1), (0, u "java/lang/Object"), (0, .class_ 3)] 3

/-- java/lang/Cloneable -/
def k18 : Class := { plain "java/lang/Cloneable" (some 0) with
  accessFlags := 1537
  interfaces := #[]
  cf := some (fileOf pool18 2 #[] #[] 1537 4 #[] #[])
  fields := #[]
  methods := #[]
  instanceTypes := #[]
  staticTypes := #[]
  resolved := Array.replicate 8 none
  statics := none }

/-- the primitive byte -/
def k19 : Class := { plain "byte" none with kind := .primitive 'B', accessFlags := 0x411 }
/-- [B -/
def k20 : Class := { plain "[B" (some 0) with kind := .array 19 .byte, interfaces := #[18, 2], accessFlags := 1041 }

/-- the primitive char -/
def k21 : Class := { plain "char" none with kind := .primitive 'C', accessFlags := 0x411 }
/-- [C -/
def k22 : Class := { plain "[C" (some 0) with kind := .array 21 .char, interfaces := #[18, 2], accessFlags := 1041 }

/-- the primitive int -/
def k23 : Class := { plain "int" none with kind := .primitive 'I', accessFlags := 0x411 }
/-- [I -/
def k24 : Class := { plain "[I" (some 0) with kind := .array 23 .int, interfaces := #[18, 2], accessFlags := 1041 }

def heap : Heap := #[{ cls := 7, slots := #[.long 0, .int 1, .null, .int 0, .null, .int 0, .int 0], vm := .statics 7 },
  { cls := 13, slots := #[.null, .null, .ref 8, .ref 9, .null], vm := .statics 13 },
  { cls := 16, slots := #[.ref 4, .ref 5, .ref 6, .ref 7, .null], vm := .statics 16 },
  { cls := 17, slots := #[.null, .null, .null], vm := .statics 17 },
  { cls := 16, slots := #[.null, .int 0, .int 0, .null, .null], vm := .none },
  { cls := 16, slots := #[.null, .int 1, .int 0, .null, .null], vm := .none },
  { cls := 16, slots := #[.null, .int 2, .int 0, .null, .null], vm := .none },
  { cls := 16, slots := #[.null, .int 3, .int 0, .null, .null], vm := .none },
  { cls := 13, slots := #[], vm := .none },
  { cls := 24, slots := #[.int 1207963663, .int 1207963663, .int 1207963663, .int 1207963663, .int 1207963663, .int 1207963663, .int 1207963663, .int 1207963663, .int 1207963663, .int 1476411407, .int 1342193679, .int 1476411407, .int 1610629135, .int 1342193679, .int 1207963663, .int 1207963663, .int 1207963663, .int 1207963663, .int 1207963663, .int 1207963663, .int 1207963663, .int 1207963663, .int 1207963663, .int 1207963663, .int 1207963663, .int 1207963663, .int 1207963663, .int 1207963663, .int 1342193679, .int 1342193679, .int 1342193679, .int 1476411407, .int 1610629132, .int 1744830488, .int 1744830488, .int 671088664, .int 671113242, .int 671088664, .int 1744830488, .int 1744830488, .int (-402653163), .int (-402653162), .int 1744830488, .int 536870937, .int 939524120, .int 536870932, .int 939524120, .int 939524120, .int 402667017, .int 402667017, .int 402667017, .int 402667017, .int 402667017, .int 402667017, .int 402667017, .int 402667017, .int 402667017, .int 402667017, .int 939524120, .int 1744830488, .int (-402653159), .int 1744830489, .int (-402653159), .int 1744830488, .int 1744830488, .int 8552417, .int 8552417, .int 8552417, .int 8552417, .int 8552417, .int 8552417, .int 8552417, .int 8552417, .int 8552417, .int 8552417, .int 8552417, .int 8552417, .int 8552417, .int 8552417, .int 8552417, .int 8552417, .int 8552417, .int 8552417, .int 8552417, .int 8552417, .int 8552417, .int 8552417, .int 8552417, .int 8552417, .int 8552417, .int 8552417, .int (-402653163), .int 1744830488, .int (-402653162), .int 1744830491, .int 1744850967, .int 1744830491, .int 8486882, .int 8486882, .int 8486882, .int 8486882, .int 8486882, .int 8486882, .int 8486882, .int 8486882, .int 8486882, .int 8486882, .int 8486882, .int 8486882, .int 8486882, .int 8486882, .int 8486882, .int 8486882, .int 8486882, .int 8486882, .int 8486882, .int 8486882, .int 8486882, .int 8486882, .int 8486882, .int 8486882, .int 8486882, .int 8486882, .int (-402653163), .int 1744830489, .int (-402653162), .int 1744830489, .int 1207963663, .int 1207963663, .int 1207963663, .int 1207963663, .int 1207963663, .int 1207963663, .int 1342181391, .int 1207963663, .int 1207963663, .int 1207963663, .int 1207963663, .int 1207963663, .int 1207963663, .int 1207963663, .int 1207963663, .int 1207963663, .int 1207963663, .int 1207963663, .int 1207963663, .int 1207963663, .int 1207963663, .int 1207963663, .int 1207963663, .int 1207963663, .int 1207963663, .int 1207963663, .int 1207963663, .int 1207963663, .int 1207963663, .int 1207963663, .int 1207963663, .int 1207963663, .int 1207963663, .int 939524108, .int 1744830488, .int 671113242, .int 671113242, .int 671113242, .int 671113242, .int 1744830492, .int 1744830488, .int 1744830491, .int 1744830492, .int 28677, .int (-402653155), .int 1744830489, .int 1207963664, .int 1744830492, .int 1744830491, .int 671088668, .int 671088665, .int 402654731, .int 402654731, .int 1744830491, .int 134049794, .int 1744830488, .int 1744830488, .int 1744830491, .int 402654475, .int 28677, .int (-402653154), .int 1744832523, .int 1744832523, .int 1744832523, .int 1744830488, .int 8548353, .int 8548353, .int 8548353, .int 8548353, .int 8548353, .int 8548353, .int 8548353, .int 8548353, .int 8548353, .int 8548353, .int 8548353, .int 8548353, .int 8548353, .int 8548353, .int 8548353, .int 8548353, .int 8548353, .int 8548353, .int 8548353, .int 8548353, .int 8548353, .int 8548353, .int 8548353, .int 1744830489, .int 8548353, .int 8548353, .int 8548353, .int 8548353, .int 8548353, .int 8548353, .int 8548353, .int 134049794, .int 8482818, .int 8482818, .int 8482818, .int 8482818, .int 8482818, .int 8482818, .int 8482818, .int 8482818, .int 8482818, .int 8482818, .int 8482818, .int 8482818, .int 8482818, .int 8482818, .int 8482818, .int 8482818, .int 8482818, .int 8482818, .int 8482818, .int 8482818, .int 8482818, .int 8482818, .int 8482818, .int 1744830489, .int 8482818, .int 8482818, .int 8482818, .int 8482818, .int 8482818, .int 8482818, .int 8482818, .int 102592514], vm := .none }]
def classes : Array Class := #[k0, k1, k2, k3, k4, k5, k6, k7, k8, k9, k10, k11, k12, k13, k14, k15, k16, k17, k18, k19, k20, k21, k22, k23, k24, plain "jdk/internal/util/ArraysSupport" (some 0)]
def interned : List (Array UInt16 × Addr) := []
def slotsUsed : Nat := 296
def theMethod : MethodId := ⟨1, 2⟩
def args0 : Array Value := #[.int 5, .int 7, .int 3, .int 1, .long 3, .long 1]
def aboutOver (below : List Frame) : State where
  vm := { classes := classes, interned := interned.toArray }
  heap := heap
  slotsUsed := slotsUsed
  threads := #[{ frames := .invoking theMethod args0 :: below }]
def below0 : List Frame := [.native { method := ⟨0, 0⟩, args := #[] }]
def about1 : State := aboutOver below0
def p0 : Program := .bare "" "" ""
def e0 : Env := launch0.env 0 0 0
theorem w_frames : about1.frames = Frame.invoking theMethod args0 :: below0 := rfl
set_option maxRecDepth 65536 in
theorem w_args : argsFit about1.vm theMethod args0 = true := by decide +kernel
set_option maxRecDepth 65536 in
theorem w_heap : heapFits about1 = true := by decide +kernel
set_option maxRecDepth 65536 in
theorem w_runnable : about1.curStatus? = some .runnable := by decide +kernel
set_option maxRecDepth 65536 in
theorem w_alone : about1.alone = true := by decide +kernel
set_option maxRecDepth 65536 in
theorem w_named : about1.methodNamed? x = some theMethod := by decide +kernel
set_option maxRecDepth 65536 in
theorem w_hears : about1.hears theMethod below0 = true := by decide +kernel
set_option maxRecDepth 65536 in
theorem w_ripe : about1.ripe theMethod args0 below0 = true := by decide +kernel
theorem w_running : about1.status = .running := rfl
set_option maxRecDepth 65536 in
theorem w_room : about1.hasRoom e0.platform room_1 = true :=
  launch0.hasRoom_least _ room_1 (by decide +kernel) (by decide +kernel) (by decide +kernel) (by decide +kernel) (by decide +kernel) (by decide +kernel)
theorem allAtoms_all (ts : List Jvm.Cond) (a : Array Jvm.Value) (st : Jvm.State) : (allAtoms ts).before a st = ts.all (fun c => c.before a st) := by
  induction ts with
  | nil => rfl
  | cons c t ih =>
    show (Jvm.Cond.and c (allAtoms t)).before a st = _
    rw [Jvm.Cond.before_and, ih, List.all_cons]
def words1 : List Jvm.Cond := Jvm.Cond.code x code maxLocals ret :: tables_1
/-- a 'code' word, met by the world's own term for the bytes: nothing is compared byte by byte -/
theorem code_word {y : MethodName} {bytes : ByteArray} {mx : Nat} {rt : Option FieldType} {a : Array Value} {s : State} {m : MethodId} {meth : Method} {c : Code} (h1 : s.methodNamed? y = some m) (h2 : s.vm.method? m = some meth) (h3 : meth.code = some c) (h4 : c.code = bytes)
    (h5 : (c.maxLocals == mx && c.exceptionTable.isEmpty && decide (c.maxStack ≤ mostOperands) && decide (meth.sig.returnType = rt) && !meth.locks && decide (parseMethodDescriptor y.desc = some meth.sig)) = true) : (Jvm.Cond.code y bytes mx rt).before a s = true := by
  simp only [Bool.and_eq_true, beq_iff_eq, Bool.not_eq_true', decide_eq_true_eq] at h5
  obtain ⟨⟨⟨⟨⟨g1, g2⟩, g3⟩, g4⟩, g5⟩, g6⟩ := h5
  simp [Cond.before, Cond.holds, Cond.value, h1, h2, h3, h4, g1, g2, g3, g4, g5, g6]
def isCode : Jvm.Cond → Bool
  | .code _ _ _ _ => true
  | _ => false
theorem all_split {L : List Jvm.Cond} {P : Jvm.Cond → Bool} (h1 : L.all (fun c => isCode c || P c) = true) (h2 : ∀ c ∈ L.filter isCode, P c = true) : L.all P = true := by
  refine List.all_eq_true.mpr fun c hc => ?_
  have h := List.all_eq_true.mp h1 c hc
  rcases Bool.eq_false_or_eq_true (isCode c) with hi | hi
  · exact h2 c (List.mem_filter.mpr ⟨hc, hi⟩)
  · simpa [hi] using h
set_option maxRecDepth 65536 in
theorem w_c0 : (Jvm.Cond.code x code maxLocals ret).before args0 about1 = true := code_word (m := ⟨1, 2⟩) (meth := k1m2) (c := k1c2) (by decide +kernel) rfl rfl rfl (by decide +kernel)
set_option maxRecDepth 65536 in
theorem w_c1 : (Jvm.Cond.code ({ cls := "com/example/leasehold/leasehold/RecordedValueInPinLaw", name := "two", desc := "(IC)Ljava/lang/String;" } : Jvm.MethodName) method_2_code (3 : Nat) (Option.some (Jvm.ClassFile.FieldType.object "java/lang/String"))).before args0 about1 = true := code_word (m := ⟨1, 1⟩) (meth := k1m1) (c := k1c1) (by decide +kernel) rfl rfl rfl (by decide +kernel)
set_option maxRecDepth 65536 in
theorem w_c2 : (Jvm.Cond.code ({ cls := "java/lang/String", name := "<init>", desc := "([C)V" } : Jvm.MethodName) jdk_42_method_3_code (2 : Nat) (Option.none : Option Jvm.ClassFile.FieldType)).before args0 about1 = true := code_word (m := ⟨7, 1⟩) (meth := k7m1) (c := k7c1) (by decide +kernel) rfl rfl rfl (by decide +kernel)
set_option maxRecDepth 65536 in
theorem w_c3 : (Jvm.Cond.code ({ cls := "java/lang/String", name := "<init>", desc := "([CIILjava/lang/Void;)V" } : Jvm.MethodName) jdk_42_method_149_code (6 : Nat) (Option.none : Option Jvm.ClassFile.FieldType)).before args0 about1 = true := code_word (m := ⟨7, 6⟩) (meth := k7m6) (c := k7c6) (by decide +kernel) rfl rfl rfl (by decide +kernel)
set_option maxRecDepth 65536 in
theorem w_c4 : (Jvm.Cond.code ({ cls := "java/lang/Object", name := "<init>", desc := "()V" } : Jvm.MethodName) object_method_1_code (1 : Nat) (Option.none : Option Jvm.ClassFile.FieldType)).before args0 about1 = true := code_word (m := ⟨0, 0⟩) (meth := k0m0) (c := k0c0) (by decide +kernel) rfl rfl rfl (by decide +kernel)
set_option maxRecDepth 65536 in
theorem w_c5 : (Jvm.Cond.code ({ cls := "java/lang/StringUTF16", name := "compress", desc := "([CII)[B" } : Jvm.MethodName) jdk_52_method_16_code (6 : Nat) (Option.some (Jvm.ClassFile.FieldType.array Jvm.ClassFile.FieldType.byte))).before args0 about1 = true := code_word (m := ⟨8, 2⟩) (meth := k8m2) (c := k8c2) (by decide +kernel) rfl rfl rfl (by decide +kernel)
set_option maxRecDepth 65536 in
theorem w_c6 : (Jvm.Cond.code ({ cls := "java/lang/StringUTF16", name := "compress", desc := "([CI[BII)I" } : Jvm.MethodName) jdk_52_method_21_code (7 : Nat) (Option.some Jvm.ClassFile.FieldType.int)).before args0 about1 = true := code_word (m := ⟨8, 3⟩) (meth := k8m3) (c := k8c3) (by decide +kernel) rfl rfl rfl (by decide +kernel)
set_option maxRecDepth 65536 in
theorem w_c7 : (Jvm.Cond.code ({ cls := "java/lang/StringUTF16", name := "coderFromArrayLen", desc := "([BI)B" } : Jvm.MethodName) jdk_52_method_15_code (2 : Nat) (Option.some Jvm.ClassFile.FieldType.byte)).before args0 about1 = true := code_word (m := ⟨8, 1⟩) (meth := k8m1) (c := k8c1) (by decide +kernel) rfl rfl rfl (by decide +kernel)
set_option maxRecDepth 65536 in
theorem w_c8 : (Jvm.Cond.code ({ cls := "java/lang/Math", name := "max", desc := "(JJ)J" } : Jvm.MethodName) jdk_29_method_66_code (4 : Nat) (Option.some Jvm.ClassFile.FieldType.long)).before args0 about1 = true := code_word (m := ⟨10, 1⟩) (meth := k10m1) (c := k10c1) (by decide +kernel) rfl rfl rfl (by decide +kernel)
set_option maxRecDepth 65536 in
theorem w_c9 : (Jvm.Cond.code ({ cls := "com/example/leasehold/leasehold/LeaseRequest", name := "<init>", desc := "(Ljava/lang/String;Ljava/lang/String;Ljava/lang/String;Ljava/lang/String;Ljava/lang/String;JJ)V" } : Jvm.MethodName) prog_13_method_1_code (10 : Nat) (Option.none : Option Jvm.ClassFile.FieldType)).before args0 about1 = true := code_word (m := ⟨9, 0⟩) (meth := k9m0) (c := k9c0) (by decide +kernel) rfl rfl rfl (by decide +kernel)
set_option maxRecDepth 65536 in
theorem w_c10 : (Jvm.Cond.code ({ cls := "com/example/leasehold/leasehold/LeaseRequest", name := "isValidHolder", desc := "(Ljava/lang/String;)Z" } : Jvm.MethodName) prog_13_method_2_code (1 : Nat) (Option.some Jvm.ClassFile.FieldType.boolean)).before args0 about1 = true := code_word (m := ⟨9, 1⟩) (meth := k9m1) (c := k9c1) (by decide +kernel) rfl rfl rfl (by decide +kernel)
set_option maxRecDepth 65536 in
theorem w_c11 : (Jvm.Cond.code ({ cls := "java/lang/String", name := "isBlank", desc := "()Z" } : Jvm.MethodName) jdk_42_method_117_code (1 : Nat) (Option.some Jvm.ClassFile.FieldType.boolean)).before args0 about1 = true := code_word (m := ⟨7, 4⟩) (meth := k7m4) (c := k7c4) (by decide +kernel) rfl rfl rfl (by decide +kernel)
set_option maxRecDepth 65536 in
theorem w_c12 : (Jvm.Cond.code ({ cls := "java/lang/String", name := "indexOfNonWhitespace", desc := "()I" } : Jvm.MethodName) jdk_42_method_120_code (1 : Nat) (Option.some Jvm.ClassFile.FieldType.int)).before args0 about1 = true := code_word (m := ⟨7, 5⟩) (meth := k7m5) (c := k7c5) (by decide +kernel) rfl rfl rfl (by decide +kernel)
set_option maxRecDepth 65536 in
theorem w_c13 : (Jvm.Cond.code ({ cls := "java/lang/String", name := "isLatin1", desc := "()Z" } : Jvm.MethodName) jdk_42_method_154_code (1 : Nat) (Option.some Jvm.ClassFile.FieldType.boolean)).before args0 about1 = true := code_word (m := ⟨7, 8⟩) (meth := k7m8) (c := k7c8) (by decide +kernel) rfl rfl rfl (by decide +kernel)
set_option maxRecDepth 65536 in
theorem w_c14 : (Jvm.Cond.code ({ cls := "java/lang/StringLatin1", name := "indexOfNonWhitespace", desc := "([B)I" } : Jvm.MethodName) jdk_43_method_37_code (4 : Nat) (Option.some Jvm.ClassFile.FieldType.int)).before args0 about1 = true := code_word (m := ⟨11, 2⟩) (meth := k11m2) (c := k11c2) (by decide +kernel) rfl rfl rfl (by decide +kernel)
set_option maxRecDepth 65536 in
theorem w_c15 : (Jvm.Cond.code ({ cls := "java/lang/StringLatin1", name := "getChar", desc := "([BI)C" } : Jvm.MethodName) jdk_43_method_44_code (2 : Nat) (Option.some Jvm.ClassFile.FieldType.char)).before args0 about1 = true := code_word (m := ⟨11, 3⟩) (meth := k11m3) (c := k11c3) (by decide +kernel) rfl rfl rfl (by decide +kernel)
set_option maxRecDepth 65536 in
theorem w_c16 : (Jvm.Cond.code ({ cls := "java/lang/CharacterDataLatin1", name := "isWhitespace", desc := "(I)Z" } : Jvm.MethodName) jdk_116_method_26_code (3 : Nat) (Option.some Jvm.ClassFile.FieldType.boolean)).before args0 about1 = true := code_word (m := ⟨13, 1⟩) (meth := k13m1) (c := k13c1) (by decide +kernel) rfl rfl rfl (by decide +kernel)
set_option maxRecDepth 65536 in
theorem w_c17 : (Jvm.Cond.code ({ cls := "java/lang/CharacterDataLatin1", name := "getProperties", desc := "(I)I" } : Jvm.MethodName) jdk_116_method_1_code (4 : Nat) (Option.some Jvm.ClassFile.FieldType.int)).before args0 about1 = true := code_word (m := ⟨13, 0⟩) (meth := k13m0) (c := k13c0) (by decide +kernel) rfl rfl rfl (by decide +kernel)
set_option maxRecDepth 65536 in
theorem w_c18 : (Jvm.Cond.code ({ cls := "java/lang/String", name := "length", desc := "()I" } : Jvm.MethodName) jdk_42_method_54_code (1 : Nat) (Option.some Jvm.ClassFile.FieldType.int)).before args0 about1 = true := code_word (m := ⟨7, 2⟩) (meth := k7m2) (c := k7c2) (by decide +kernel) rfl rfl rfl (by decide +kernel)
set_option maxRecDepth 65536 in
theorem w_c19 : (Jvm.Cond.code ({ cls := "java/lang/String", name := "coder", desc := "()B" } : Jvm.MethodName) jdk_42_method_152_code (1 : Nat) (Option.some Jvm.ClassFile.FieldType.byte)).before args0 about1 = true := code_word (m := ⟨7, 7⟩) (meth := k7m7) (c := k7c7) (by decide +kernel) rfl rfl rfl (by decide +kernel)
set_option maxRecDepth 65536 in
theorem w_c20 : (Jvm.Cond.code ({ cls := "com/example/leasehold/leasehold/LeaseRequest", name := "isValidTtl", desc := "(J)Z" } : Jvm.MethodName) prog_13_method_3_code (2 : Nat) (Option.some Jvm.ClassFile.FieldType.boolean)).before args0 about1 = true := code_word (m := ⟨9, 2⟩) (meth := k9m2) (c := k9c2) (by decide +kernel) rfl rfl rfl (by decide +kernel)
set_option maxRecDepth 65536 in
theorem w_c21 : (Jvm.Cond.code ({ cls := "java/util/Objects", name := "requireNonNull", desc := "(Ljava/lang/Object;Ljava/lang/String;)Ljava/lang/Object;" } : Jvm.MethodName) jdk_31_method_11_code (2 : Nat) (Option.some (Jvm.ClassFile.FieldType.object "java/lang/Object"))).before args0 about1 = true := code_word (m := ⟨14, 1⟩) (meth := k14m1) (c := k14c1) (by decide +kernel) rfl rfl rfl (by decide +kernel)
set_option maxRecDepth 65536 in
theorem w_c22 : (Jvm.Cond.code ({ cls := "com/example/leasehold/leasehold/RecordedValue", name := "in", desc := "(Lcom/example/leasehold/leasehold/LeaseRequest;)Ljava/lang/String;" } : Jvm.MethodName) prog_28_method_6_code (2 : Nat) (Option.some (Jvm.ClassFile.FieldType.object "java/lang/String"))).before args0 about1 = true := code_word (m := ⟨16, 0⟩) (meth := k16m0) (c := k16c0) (by decide +kernel) rfl rfl rfl (by decide +kernel)
set_option maxRecDepth 65536 in
theorem w_c23 : (Jvm.Cond.code ({ cls := "java/lang/Enum", name := "ordinal", desc := "()I" } : Jvm.MethodName) jdk_37_method_2_code (1 : Nat) (Option.some Jvm.ClassFile.FieldType.int)).before args0 about1 = true := code_word (m := ⟨15, 0⟩) (meth := k15m0) (c := k15c0) (by decide +kernel) rfl rfl rfl (by decide +kernel)
set_option maxRecDepth 65536 in
theorem w_c24 : (Jvm.Cond.code ({ cls := "com/example/leasehold/leasehold/LeaseRequest", name := "holder", desc := "()Ljava/lang/String;" } : Jvm.MethodName) prog_13_method_9_code (1 : Nat) (Option.some (Jvm.ClassFile.FieldType.object "java/lang/String"))).before args0 about1 = true := code_word (m := ⟨9, 3⟩) (meth := k9m3) (c := k9c3) (by decide +kernel) rfl rfl rfl (by decide +kernel)
set_option maxRecDepth 65536 in
theorem w_c25 : (Jvm.Cond.code ({ cls := "com/example/leasehold/leasehold/LeaseRequest", name := "actor", desc := "()Ljava/lang/String;" } : Jvm.MethodName) prog_13_method_10_code (1 : Nat) (Option.some (Jvm.ClassFile.FieldType.object "java/lang/String"))).before args0 about1 = true := code_word (m := ⟨9, 4⟩) (meth := k9m4) (c := k9c4) (by decide +kernel) rfl rfl rfl (by decide +kernel)
set_option maxRecDepth 65536 in
theorem w_c26 : (Jvm.Cond.code ({ cls := "com/example/leasehold/leasehold/LeaseRequest", name := "intent", desc := "()Ljava/lang/String;" } : Jvm.MethodName) prog_13_method_11_code (1 : Nat) (Option.some (Jvm.ClassFile.FieldType.object "java/lang/String"))).before args0 about1 = true := code_word (m := ⟨9, 5⟩) (meth := k9m5) (c := k9c5) (by decide +kernel) rfl rfl rfl (by decide +kernel)
set_option maxRecDepth 65536 in
theorem w_c27 : (Jvm.Cond.code ({ cls := "com/example/leasehold/leasehold/LeaseRequest", name := "intentVersion", desc := "()Ljava/lang/String;" } : Jvm.MethodName) prog_13_method_12_code (1 : Nat) (Option.some (Jvm.ClassFile.FieldType.object "java/lang/String"))).before args0 about1 = true := code_word (m := ⟨9, 6⟩) (meth := k9m6) (c := k9c6) (by decide +kernel) rfl rfl rfl (by decide +kernel)
set_option maxRecDepth 65536 in
theorem w_c28 : (Jvm.Cond.code ({ cls := "java/lang/String", name := "equals", desc := "(Ljava/lang/Object;)Z" } : Jvm.MethodName) jdk_42_method_66_code (3 : Nat) (Option.some Jvm.ClassFile.FieldType.boolean)).before args0 about1 = true := code_word (m := ⟨7, 3⟩) (meth := k7m3) (c := k7c3) (by decide +kernel) rfl rfl rfl (by decide +kernel)
set_option maxRecDepth 65536 in
theorem w_c29 : (Jvm.Cond.code ({ cls := "java/lang/StringLatin1", name := "equals", desc := "([B[B)Z" } : Jvm.MethodName) jdk_43_method_13_code (3 : Nat) (Option.some Jvm.ClassFile.FieldType.boolean)).before args0 about1 = true := code_word (m := ⟨11, 1⟩) (meth := k11m1) (c := k11c1) (by decide +kernel) rfl rfl rfl (by decide +kernel)
def codes1 : List Jvm.Cond := [Jvm.Cond.code x code maxLocals ret, Jvm.Cond.code ({ cls := "com/example/leasehold/leasehold/RecordedValueInPinLaw", name := "two", desc := "(IC)Ljava/lang/String;" } : Jvm.MethodName) method_2_code (3 : Nat) (Option.some (Jvm.ClassFile.FieldType.object "java/lang/String")), Jvm.Cond.code ({ cls := "java/lang/String", name := "<init>", desc := "([C)V" } : Jvm.MethodName) jdk_42_method_3_code (2 : Nat) (Option.none : Option Jvm.ClassFile.FieldType), Jvm.Cond.code ({ cls := "java/lang/String", name := "<init>", desc := "([CIILjava/lang/Void;)V" } : Jvm.MethodName) jdk_42_method_149_code (6 : Nat) (Option.none : Option Jvm.ClassFile.FieldType), Jvm.Cond.code ({ cls := "java/lang/Object", name := "<init>", desc := "()V" } : Jvm.MethodName) object_method_1_code (1 : Nat) (Option.none : Option Jvm.ClassFile.FieldType), Jvm.Cond.code ({ cls := "java/lang/StringUTF16", name := "compress", desc := "([CII)[B" } : Jvm.MethodName) jdk_52_method_16_code (6 : Nat) (Option.some (Jvm.ClassFile.FieldType.array Jvm.ClassFile.FieldType.byte)), Jvm.Cond.code ({ cls := "java/lang/StringUTF16", name := "compress", desc := "([CI[BII)I" } : Jvm.MethodName) jdk_52_method_21_code (7 : Nat) (Option.some Jvm.ClassFile.FieldType.int), Jvm.Cond.code ({ cls := "java/lang/StringUTF16", name := "coderFromArrayLen", desc := "([BI)B" } : Jvm.MethodName) jdk_52_method_15_code (2 : Nat) (Option.some Jvm.ClassFile.FieldType.byte), Jvm.Cond.code ({ cls := "java/lang/Math", name := "max", desc := "(JJ)J" } : Jvm.MethodName) jdk_29_method_66_code (4 : Nat) (Option.some Jvm.ClassFile.FieldType.long), Jvm.Cond.code ({ cls := "com/example/leasehold/leasehold/LeaseRequest", name := "<init>", desc := "(Ljava/lang/String;Ljava/lang/String;Ljava/lang/String;Ljava/lang/String;Ljava/lang/String;JJ)V" } : Jvm.MethodName) prog_13_method_1_code (10 : Nat) (Option.none : Option Jvm.ClassFile.FieldType), Jvm.Cond.code ({ cls := "com/example/leasehold/leasehold/LeaseRequest", name := "isValidHolder", desc := "(Ljava/lang/String;)Z" } : Jvm.MethodName) prog_13_method_2_code (1 : Nat) (Option.some Jvm.ClassFile.FieldType.boolean), Jvm.Cond.code ({ cls := "java/lang/String", name := "isBlank", desc := "()Z" } : Jvm.MethodName) jdk_42_method_117_code (1 : Nat) (Option.some Jvm.ClassFile.FieldType.boolean), Jvm.Cond.code ({ cls := "java/lang/String", name := "indexOfNonWhitespace", desc := "()I" } : Jvm.MethodName) jdk_42_method_120_code (1 : Nat) (Option.some Jvm.ClassFile.FieldType.int), Jvm.Cond.code ({ cls := "java/lang/String", name := "isLatin1", desc := "()Z" } : Jvm.MethodName) jdk_42_method_154_code (1 : Nat) (Option.some Jvm.ClassFile.FieldType.boolean), Jvm.Cond.code ({ cls := "java/lang/StringLatin1", name := "indexOfNonWhitespace", desc := "([B)I" } : Jvm.MethodName) jdk_43_method_37_code (4 : Nat) (Option.some Jvm.ClassFile.FieldType.int), Jvm.Cond.code ({ cls := "java/lang/StringLatin1", name := "getChar", desc := "([BI)C" } : Jvm.MethodName) jdk_43_method_44_code (2 : Nat) (Option.some Jvm.ClassFile.FieldType.char), Jvm.Cond.code ({ cls := "java/lang/CharacterDataLatin1", name := "isWhitespace", desc := "(I)Z" } : Jvm.MethodName) jdk_116_method_26_code (3 : Nat) (Option.some Jvm.ClassFile.FieldType.boolean), Jvm.Cond.code ({ cls := "java/lang/CharacterDataLatin1", name := "getProperties", desc := "(I)I" } : Jvm.MethodName) jdk_116_method_1_code (4 : Nat) (Option.some Jvm.ClassFile.FieldType.int), Jvm.Cond.code ({ cls := "java/lang/String", name := "length", desc := "()I" } : Jvm.MethodName) jdk_42_method_54_code (1 : Nat) (Option.some Jvm.ClassFile.FieldType.int), Jvm.Cond.code ({ cls := "java/lang/String", name := "coder", desc := "()B" } : Jvm.MethodName) jdk_42_method_152_code (1 : Nat) (Option.some Jvm.ClassFile.FieldType.byte), Jvm.Cond.code ({ cls := "com/example/leasehold/leasehold/LeaseRequest", name := "isValidTtl", desc := "(J)Z" } : Jvm.MethodName) prog_13_method_3_code (2 : Nat) (Option.some Jvm.ClassFile.FieldType.boolean), Jvm.Cond.code ({ cls := "java/util/Objects", name := "requireNonNull", desc := "(Ljava/lang/Object;Ljava/lang/String;)Ljava/lang/Object;" } : Jvm.MethodName) jdk_31_method_11_code (2 : Nat) (Option.some (Jvm.ClassFile.FieldType.object "java/lang/Object")), Jvm.Cond.code ({ cls := "com/example/leasehold/leasehold/RecordedValue", name := "in", desc := "(Lcom/example/leasehold/leasehold/LeaseRequest;)Ljava/lang/String;" } : Jvm.MethodName) prog_28_method_6_code (2 : Nat) (Option.some (Jvm.ClassFile.FieldType.object "java/lang/String")), Jvm.Cond.code ({ cls := "java/lang/Enum", name := "ordinal", desc := "()I" } : Jvm.MethodName) jdk_37_method_2_code (1 : Nat) (Option.some Jvm.ClassFile.FieldType.int), Jvm.Cond.code ({ cls := "com/example/leasehold/leasehold/LeaseRequest", name := "holder", desc := "()Ljava/lang/String;" } : Jvm.MethodName) prog_13_method_9_code (1 : Nat) (Option.some (Jvm.ClassFile.FieldType.object "java/lang/String")), Jvm.Cond.code ({ cls := "com/example/leasehold/leasehold/LeaseRequest", name := "actor", desc := "()Ljava/lang/String;" } : Jvm.MethodName) prog_13_method_10_code (1 : Nat) (Option.some (Jvm.ClassFile.FieldType.object "java/lang/String")), Jvm.Cond.code ({ cls := "com/example/leasehold/leasehold/LeaseRequest", name := "intent", desc := "()Ljava/lang/String;" } : Jvm.MethodName) prog_13_method_11_code (1 : Nat) (Option.some (Jvm.ClassFile.FieldType.object "java/lang/String")), Jvm.Cond.code ({ cls := "com/example/leasehold/leasehold/LeaseRequest", name := "intentVersion", desc := "()Ljava/lang/String;" } : Jvm.MethodName) prog_13_method_12_code (1 : Nat) (Option.some (Jvm.ClassFile.FieldType.object "java/lang/String")), Jvm.Cond.code ({ cls := "java/lang/String", name := "equals", desc := "(Ljava/lang/Object;)Z" } : Jvm.MethodName) jdk_42_method_66_code (3 : Nat) (Option.some Jvm.ClassFile.FieldType.boolean), Jvm.Cond.code ({ cls := "java/lang/StringLatin1", name := "equals", desc := "([B[B)Z" } : Jvm.MethodName) jdk_43_method_13_code (3 : Nat) (Option.some Jvm.ClassFile.FieldType.boolean)]
set_option maxRecDepth 65536 in
theorem codes_eq : words1.filter isCode = codes1 := rfl
theorem w_codes : ∀ c ∈ words1.filter isCode, c.before args0 about1 = true := by
  rw [codes_eq]
  intro c hc
  simp only [codes1, List.mem_cons, List.not_mem_nil, or_false] at hc
  rcases hc with rfl | rfl | rfl | rfl | rfl | rfl | rfl | rfl | rfl | rfl | rfl | rfl | rfl | rfl | rfl | rfl | rfl | rfl | rfl | rfl | rfl | rfl | rfl | rfl | rfl | rfl | rfl | rfl | rfl | rfl
  · exact w_c0
  · exact w_c1
  · exact w_c2
  · exact w_c3
  · exact w_c4
  · exact w_c5
  · exact w_c6
  · exact w_c7
  · exact w_c8
  · exact w_c9
  · exact w_c10
  · exact w_c11
  · exact w_c12
  · exact w_c13
  · exact w_c14
  · exact w_c15
  · exact w_c16
  · exact w_c17
  · exact w_c18
  · exact w_c19
  · exact w_c20
  · exact w_c21
  · exact w_c22
  · exact w_c23
  · exact w_c24
  · exact w_c25
  · exact w_c26
  · exact w_c27
  · exact w_c28
  · exact w_c29
set_option maxRecDepth 65536 in
theorem w_t1 : (words1.take 24).all (fun c => isCode c || c.before args0 about1) = true := by decide +kernel
set_option maxRecDepth 65536 in
theorem w_t2 : ((words1.drop 24).take 24).all (fun c => isCode c || c.before args0 about1) = true := by decide +kernel
set_option maxRecDepth 65536 in
theorem w_t3 : (((words1.drop 24).drop 24).take 24).all (fun c => isCode c || c.before args0 about1) = true := by decide +kernel
set_option maxRecDepth 65536 in
theorem w_t4 : ((((words1.drop 24).drop 24).drop 24).take 24).all (fun c => isCode c || c.before args0 about1) = true := by decide +kernel
set_option maxRecDepth 65536 in
theorem w_t5 : (((((words1.drop 24).drop 24).drop 24).drop 24).take 24).all (fun c => isCode c || c.before args0 about1) = true := by decide +kernel
set_option maxRecDepth 65536 in
theorem w_t6 : ((((((words1.drop 24).drop 24).drop 24).drop 24).drop 24).take 24).all (fun c => isCode c || c.before args0 about1) = true := by decide +kernel
set_option maxRecDepth 65536 in
theorem w_t7 : (((((((words1.drop 24).drop 24).drop 24).drop 24).drop 24).drop 24).take 24).all (fun c => isCode c || c.before args0 about1) = true := by decide +kernel
set_option maxRecDepth 65536 in
theorem w_t8 : (((((((words1.drop 24).drop 24).drop 24).drop 24).drop 24).drop 24).drop 24).all (fun c => isCode c || c.before args0 about1) = true := by decide +kernel
theorem w_tables : (allAtoms (Jvm.Cond.code x code maxLocals ret :: tables_1)).before args0 about1 = true := by
  rw [allAtoms_all]
  show words1.all (fun c => c.before args0 about1) = true
  refine all_split ?_ w_codes
  rw [← List.take_append_drop 24 words1, List.all_append, w_t1, ← List.take_append_drop 24 (words1.drop 24), List.all_append, w_t2, ← List.take_append_drop 24 ((words1.drop 24).drop 24), List.all_append, w_t3, ← List.take_append_drop 24 (((words1.drop 24).drop 24).drop 24), List.all_append, w_t4, ← List.take_append_drop 24 ((((words1.drop 24).drop 24).drop 24).drop 24), List.all_append, w_t5, ← List.take_append_drop 24 (((((words1.drop 24).drop 24).drop 24).drop 24).drop 24), List.all_append, w_t6, ← List.take_append_drop 24 ((((((words1.drop 24).drop 24).drop 24).drop 24).drop 24).drop 24), List.all_append, w_t7, w_t8]
  rfl
set_option maxRecDepth 65536 in
theorem w_rest : rest_1_c.before args0 about1 = true := by decide +kernel
set_option maxRecDepth 65536 in
theorem w_case : (Jvm.Cond.and given_1 narrow_1).before args0 about1 = true := by decide +kernel
theorem w_applies : (headSpec (Jvm.Cond.code x code maxLocals ret :: tables_1) room_1).applies x e0.platform about1 = true :=
  (Spec.applies_iff w_frames).mpr ⟨w_running, w_runnable, w_alone, w_named, w_hears, w_ripe, w_room, w_tables⟩
theorem atStart : AtStart classFile x code maxLocals ret World_1 tables_1 room_1 Calls_1 rest_1 Pre_1 launch0 p0 e0 about1 theMethod args0 below0 :=
  ⟨lists_1, trivial, launch0.admits_env _ _ _, launch0.least_env, fairChoices_fair.cas, fairChoices_fair.clock, w_frames, w_args, w_heap, w_applies, trivial, w_rest, w_case⟩
end start1
theorem witness_1 : WitnessClaimed_1 := ⟨start1.p0, start1.e0, start1.about1, start1.theMethod, start1.args0, start1.below0, start1.atStart⟩
end Jvm.Pilot.@@N@@
