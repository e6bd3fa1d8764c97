import JvmDerived
import JvmDerived.Pilot.@@N@@Statement
import JvmDerived.Pilot.@@N@@Code
set_option linter.unusedVariables false
set_option linter.unusedSimpArgs false
namespace Jvm.RoadKit
open Sem ClassFile Op Lib Jvm.Stand Jvm.Free Jvm.LawKit
section New
variable {p : Program} {l : Launch} {e : Env} {R : Room} {s : State} {m : MethodId} {args : Array Value} {below : List Frame} {meth : Method} {c : Code} {T : State} {locs : List Loc} {cells slots : Nat}
theorem retI (X : Stand p l e R s m args below meth c T locs cells slots) (hx : p.tables.exec = Jvm.exec) {pc : Nat} {Ls : Array Slot} {z : Int32} {rest : List Value} (hret : meth.sig.returnType = some .int) (hd : decode c.code pc = .ok (.ireturn, 1)) {fs : List Frame}
    (hl : ∀ (f : JFrame) (acts : List Action), f.method = m → f.locked = none → f.entered = [] → (doReturn e (T.setTop f) acts (some (.int z))).1 = T.setFrames fs) : Steps p.tables e below (T.setTop (mkF m pc Ls (.int z :: rest))) (T.setFrames fs) := by
  have hm' : T.vm.method? m = some meth := X.method'
  have hn : narrow .int (.int z) = .int z := rfl
  show Steps p.tables e below (T.setTop { method := m, pc := pc, locals := Ls, stack := _ :: rest, locked := none }) _
  jvm_step X.here [X.here.top, hx, hd, hm', hret, hn]
  first | (intro acts; rw [hl _ acts rfl rfl rfl]) | rw [hl _ _ rfl rfl rfl]
  exact Steps.refl _
end New
theorem own_sta_keep {Z : State} {h h' : Heap} {C n d : String} {v : Value} {ws : List Addr} (F : Sta Z h C n d v) (K : Keep h h' ws) (q : ∀ x ∈ ws, ∀ c : Cell, h[x]? = some c → c.vm.isStatics = false) : Sta Z h' C n d v := by
  obtain ⟨cf, i, k, f, st, cell, h1, h2, h3, h4, h5, h6, h7⟩ := F
  exact ⟨cf, i, k, f, st, cell, h1, h2, h3, h4, K.2.1 st cell h5 (fun hm => by rw [q st hm cell h5] at h6; cases h6), h6, h7⟩
theorem own_plain_Exa {Z : State} {h : Heap} {a : Addr} {C : String} (F : Exa Z h a C) : ∀ c : Cell, h[a]? = some c → c.vm.isStatics = false := fun c hc => by
  obtain ⟨cell, _, h1, -, -, h4, -⟩ := F
  cases h1.symm.trans hc; exact h4
theorem own_plain_Arv {Z : State} {h : Heap} {a : Addr} {k : ClassId} {ty : FieldType} {n : Int32} {vs : List Value} {d : Value} (F : Arv Z h a k ty n vs d) : ∀ c : Cell, h[a]? = some c → c.vm.isStatics = false := fun c hc => by
  obtain ⟨cell, A, -⟩ := F
  cases A.1.symm.trans hc; exact A.plain
end Jvm.RoadKit
/- laws to paste: Road.backV, Road.eqW, Road.codOf (cut by pick.py; bodies as the Statement names them) -/
namespace Jvm.Pilot.@@N@@
namespace StrChars
open Jvm Sem ClassFile Op Lib Jvm.Stand Jvm.Free.XT Jvm.Free.ALB Jvm.Free.JM Jvm.Free
open Jvm.Lib.Cold (StaticIs)
/-- a char array whose places are chars -/
def Ch (a : Addr) (A : Cell) (U : State) : Prop := Arr .char a A U ∧ Typed .char A
theorem Ch.mv {a : Addr} {A : Cell} {U U' : State} (h : Ch a A U) (hal : U.vm.Alike U'.vm) (hh : U'.heap = U.heap) : Ch a A U' := ⟨h.1.mv hal hh, h.2⟩
theorem Ch.keep {a : Addr} {A : Cell} {U U' : State} (h : Ch a A U) (hal : U.vm.Alike U'.vm) (hk : U'.heap[a]? = some A) : Ch a A U' := ⟨h.1.keep hal hk, h.2⟩
/-- what place i of a char[]'s cell holds -/
def cv (A : Cell) (i : Nat) : Int32 := match A.slots[i]? with | some (.int x) => x | _ => 0
theorem Ch.get {a : Addr} {A : Cell} {U : State} (h : Ch a A U) {i : Nat} (hi : i < A.slots.size) : A.slots[i]? = some (.int (cv A i)) := by
  have e := Array.getElem?_eq_getElem hi
  have f := h.2 i _ e
  unfold cv; rw [e]
  generalize A.slots[i] = v at f
  cases v <;> simp [fits] at f ⊢
/-- the byte that i2b leaves of a char -/
def lo8 (x : Int32) : Int32 := x.toInt8.toInt32
theorem fits_lo8 (y : Int32) : fits .byte (.int (lo8 y)) = true := by
  have h1 := y.toInt8.le_toInt
  have h2 := y.toInt8.toInt_lt
  simp only [lo8, fits, Bool.and_eq_true, decide_eq_true_eq, Int32.le_iff_toInt_le, Int8.toInt_toInt32, show (-128 : Int32).toInt = -128 from by decide, show (127 : Int32).toInt = 127 from by decide]
  omega
/-- A' is A but that each place j of lo .. hi - 1 holds f j -/
def Laid (A A' : Cell) (lo hi : Nat) (f : Nat → Value) : Prop := A'.cls = A.cls ∧ A'.vm = A.vm ∧ A'.slots.size = A.slots.size ∧ ∀ i, A'.slots[i]? = if lo ≤ i ∧ i < hi then some (f i) else A.slots[i]?
theorem Laid.zero (A : Cell) (lo : Nat) (f : Nat → Value) : Laid A A lo (lo + 0) f := ⟨rfl, rfl, rfl, fun i => by rw [if_neg (by omega)]⟩
theorem Laid.step {A Ak : Cell} {lo k : Nat} {f : Nat → Value} {v : Value} (h : Laid A Ak lo k f) (hlo : lo ≤ k) (hk : k < Ak.slots.size) (hv : v = f k) : Laid A (Ak.setSlot k v) lo (k + 1) f := by
  refine ⟨h.1, h.2.1, by simpa [Cell.setSlot] using h.2.2.1, fun i => ?_⟩
  by_cases e : k = i
  · subst e; rw [Cell.slots_setSlot_self v hk, if_pos (by omega), hv]
  · rw [Cell.slots_setSlot_ne v e, h.2.2.2 i]
    by_cases q : lo ≤ i ∧ i < k
    · rw [if_pos q, if_pos (by omega)]
    · rw [if_neg q, if_neg (by omega)]
def U16 : String := "java/lang/StringUTF16"
namespace Cmp5
def yN : MethodName := ⟨"java/lang/StringUTF16", "compress", "([CI[BII)I"⟩
abbrev yB : ByteArray := jdk_52_method_21_code
theorem d0 : decode yB 0 = .ok (.iconst 0, 1) := by decide +kernel
theorem d1 : decode yB 1 = .ok (.istore 5, 2) := by decide +kernel
theorem d3 : decode yB 3 = .ok (.iload 5, 2) := by decide +kernel
theorem d5 : decode yB 5 = .ok (.iload 4, 2) := by decide +kernel
theorem d7 : decode yB 7 = .ok (.if_icmp (.ge) 37, 3) := by decide +kernel
theorem d10 : decode yB 10 = .ok (.aload_n 0, 1) := by decide +kernel
theorem d11 : decode yB 11 = .ok (.iload_n 1, 1) := by decide +kernel
theorem d12 : decode yB 12 = .ok (.caload, 1) := by decide +kernel
theorem d13 : decode yB 13 = .ok (.istore 6, 2) := by decide +kernel
theorem d15 : decode yB 15 = .ok (.iload 6, 2) := by decide +kernel
theorem d17 : decode yB 17 = .ok (.sipush 255, 3) := by decide +kernel
theorem d20 : decode yB 20 = .ok (.if_icmp (.le) 6, 3) := by decide +kernel
theorem d26 : decode yB 26 = .ok (.aload_n 2, 1) := by decide +kernel
theorem d27 : decode yB 27 = .ok (.iload_n 3, 1) := by decide +kernel
theorem d28 : decode yB 28 = .ok (.iload 6, 2) := by decide +kernel
theorem d30 : decode yB 30 = .ok (.i2b, 1) := by decide +kernel
theorem d31 : decode yB 31 = .ok (.bastore, 1) := by decide +kernel
theorem d32 : decode yB 32 = .ok (.iinc 1 1, 3) := by decide +kernel
theorem d35 : decode yB 35 = .ok (.iinc 3 1, 3) := by decide +kernel
theorem d38 : decode yB 38 = .ok (.iinc 5 1, 3) := by decide +kernel
theorem d41 : decode yB 41 = .ok (.goto (-38), 3) := by decide +kernel
theorem d44 : decode yB 44 = .ok (.iload 4, 2) := by decide +kernel
theorem d46 : decode yB 46 = .ok (.ireturn, 1) := by decide +kernel
def site : List Cond := []
def tab : Cond := tabOf yN yB 7 (some .int) site
def P (b : Addr) (A : Cell) (d : Addr) (B : Cell) (o q len : Nat) (args : Array Value) (s : State) : Prop := args = #[.ref b, .int (Int32.ofNat o), .ref d, .int (Int32.ofNat q), .int (Int32.ofNat len)] ∧ Ch b A s ∧ Arr .byte d B s ∧ b ≠ d ∧ o + len ≤ A.slots.size ∧ q + len ≤ B.slots.size ∧ ∀ i, i < len → ¬ 255 < cv A (o + i)
def E (b : Addr) (A : Cell) (d : Addr) (B : Cell) (o q len : Nat) (r : Option Value) (s u : State) : Prop := r = some (.int (Int32.ofNat len)) ∧ ∃ B', Put d B' s u ∧ Laid B B' q (q + len) (fun j => Value.int (lo8 (cv A (o + (j - q)))))
/-- no char of the range above 255: len; the places written hold each char's low byte -/
theorem law (l : Launch) (b : Addr) (A : Cell) (d : Addr) (B : Cell) (o q len : Nat) : Law l yN 5 5 0 0 yB 7 (some .int) site (P b A d B o q len) (E b A d B o q len) (copyLocs d q len) 0 0 := by
  refine Law.of_walk (plainFor_of_name (by decide +kernel)) (by decide +kernel) (by decide +kernel) (by decide) (fun _ _ h => by rw [h.1]; rfl) (fun _ U U' hal hh h => ⟨h.1, h.2.1.mv hal hh, h.2.2.1.mv hal hh, h.2.2.2⟩) (fun r U U' V V' h1 hal h2 h => ⟨h.1, h.2.elim fun B' q => ⟨B', q.1.mv h1 h2, q.2⟩⟩) ?_
  intro p e s m args below meth c s₁ X0 hexec hbytes hml hret hlk hnm hown hh0 W hP
  obtain ⟨rfl, hA, hB, hne, l1, l2, hp⟩ := hP
  have c1 : Steps p.tables e below (s₁.setTop (entryFrame m #[.ref b, .int (Int32.ofNat o), .ref d, .int (Int32.ofNat q), .int (Int32.ofNat len)] 7)) (s₁.setTop (mkF m 0 #[.val (.ref b), .val (.int (Int32.ofNat o)), .val (.ref d), .val (.int (Int32.ofNat q)), .val (.int (Int32.ofNat len)), .unset, .unset] [])) := entry rfl
  have hA0 := hA.1.mv X0.warmed.alike hh0
  have hB0 := hB.mv X0.warmed.alike hh0
  have a31 := hA.1.2.2.2
  have c2 : Steps p.tables e below (s₁.setTop (entryFrame m #[.ref b, .int (Int32.ofNat o), .ref d, .int (Int32.ofNat q), .int (Int32.ofNat len)] 7)) (s₁.setTop (mkF m 3 #[.val (.ref b), .val (.int (Int32.ofNat o)), .val (.ref d), .val (.int (Int32.ofNat q)), .val (.int (Int32.ofNat len)), .val (.int 0), .unset] [])) := c1.trans (by
    refine iconstV X0.here hexec rfl 0 (hb hbytes d0) (by decide) ?_
    refine XS.istore X0.here hexec rfl (hb hbytes d1) rfl rfl ?_
    exact Steps.refl _)
  have loop : ∀ (r i : Nat), i + r = len → ∀ (z : Slot), (z = .unset ∨ ∃ w, z = .val w ∧ w.category = 1) → ∀ (Tl : State) (Bk : Cell), Stand p l e { frames := 0, locals := 0, cells := 0, slots := 0 } s m #[.ref b, .int (Int32.ofNat o), .ref d, .int (Int32.ofNat q), .int (Int32.ofNat len)] below meth c Tl ([] ++ copyLocs d q i) 0 0 → Put d Bk s₁ Tl → Laid B Bk q (q + i) (fun j => Value.int (lo8 (cv A (o + (j - q))))) →
      Steps p.tables e below (s₁.setTop (entryFrame m #[.ref b, .int (Int32.ofNat o), .ref d, .int (Int32.ofNat q), .int (Int32.ofNat len)] 7)) (Tl.setTop (mkF m 3 #[.val (.ref b), .val (.int (Int32.ofNat (o + i))), .val (.ref d), .val (.int (Int32.ofNat (q + i))), .val (.int (Int32.ofNat len)), .val (.int (Int32.ofNat i)), z] [])) → ∃ (T' : State) (B' : Cell) (z' : Slot), Stand p l e { frames := 0, locals := 0, cells := 0, slots := 0 } s m #[.ref b, .int (Int32.ofNat o), .ref d, .int (Int32.ofNat q), .int (Int32.ofNat len)] below meth c T' ([] ++ copyLocs d q len) 0 0 ∧ Put d B' s₁ T' ∧ Laid B B' q (q + len) (fun j => Value.int (lo8 (cv A (o + (j - q))))) ∧
      Steps p.tables e below (s₁.setTop (entryFrame m #[.ref b, .int (Int32.ofNat o), .ref d, .int (Int32.ofNat q), .int (Int32.ofNat len)] 7)) (T'.setTop (mkF m 3 #[.val (.ref b), .val (.int (Int32.ofNat (o + len))), .val (.ref d), .val (.int (Int32.ofNat (q + len))), .val (.int (Int32.ofNat len)), .val (.int (Int32.ofNat len)), z'] [])) := by
    intro r
    induction r with
    | zero =>
      intro i hi z hz Tl Bk Xl pl fl cl
      have hil : i = len := by omega
      rw [hil] at Xl fl cl
      exact ⟨Tl, Bk, z, Xl, pl, fl, cl⟩
    | succ r ih =>
      intro i hi z hz Tl Bk Xl pl fl cl
      have all := X0.warmed.alike.symm.trans Xl.warmed.alike
      have hAl := hA0.keep all (pl.other hne hA0.1)
      have hBk := hB0.like all pl.1 fl.1 fl.2.1 fl.2.2.1
      have hlt : q + i < Bk.slots.size := by rw [fl.2.2.1]; omega
      have c3 : Steps p.tables e below (s₁.setTop (entryFrame m #[.ref b, .int (Int32.ofNat o), .ref d, .int (Int32.ofNat q), .int (Int32.ofNat len)] 7)) (Tl.setTop (mkF m 12 #[.val (.ref b), .val (.int (Int32.ofNat (o + i))), .val (.ref d), .val (.int (Int32.ofNat (q + i))), .val (.int (Int32.ofNat len)), .val (.int (Int32.ofNat i)), z] [.int (Int32.ofNat (o + i)), .ref b])) := cl.trans (by
        refine XS.iload Xl.here hexec rfl (hb hbytes d3) rfl ?_
        refine XS.iload Xl.here hexec rfl (hb hbytes d5) rfl ?_
        refine XS.icmpNo Xl.here hexec rfl (hb hbytes d7) rfl (ii_ge_f (lt32 (by omega) (by omega))) ?_
        refine XS.aloadN Xl.here hexec rfl (hb hbytes d10) rfl rfl ?_
        refine XS.iloadN Xl.here hexec rfl (hb hbytes d11) rfl ?_
        exact Steps.refl _)
      have c4 : Steps p.tables e below (s₁.setTop (entryFrame m #[.ref b, .int (Int32.ofNat o), .ref d, .int (Int32.ofNat q), .int (Int32.ofNat len)] 7)) (Tl.setTop (mkF m 13 #[.val (.ref b), .val (.int (Int32.ofNat (o + i))), .val (.ref d), .val (.int (Int32.ofNat (q + i))), .val (.int (Int32.ofNat len)), .val (.int (Int32.ofNat i)), z] [.int (cv A (o + i))])) := c3.trans (by
        refine Xl.aget hexec hAl rfl (hA.get (i := o + i) (by omega)) rfl rfl (hb hbytes d12) ?_
        exact Steps.refl _)
      have c5 : Steps p.tables e below (s₁.setTop (entryFrame m #[.ref b, .int (Int32.ofNat o), .ref d, .int (Int32.ofNat q), .int (Int32.ofNat len)] 7)) (Tl.setTop (mkF m 15 #[.val (.ref b), .val (.int (Int32.ofNat (o + i))), .val (.ref d), .val (.int (Int32.ofNat (q + i))), .val (.int (Int32.ofNat len)), .val (.int (Int32.ofNat i)), .val (.int (cv A (o + i)))] [])) := c4.trans (by
        refine XS.istoreS Xl.here hexec rfl (hb hbytes d13) rfl rfl hz ?_
        exact Steps.refl _)
      have c6 : Steps p.tables e below (s₁.setTop (entryFrame m #[.ref b, .int (Int32.ofNat o), .ref d, .int (Int32.ofNat q), .int (Int32.ofNat len)] 7)) (Tl.setTop (mkF m 31 #[.val (.ref b), .val (.int (Int32.ofNat (o + i))), .val (.ref d), .val (.int (Int32.ofNat (q + i))), .val (.int (Int32.ofNat len)), .val (.int (Int32.ofNat i)), .val (.int (cv A (o + i)))] [.int (lo8 (cv A (o + i))), .int (Int32.ofNat (q + i)), .ref d])) := c5.trans (by
        refine XS.iload Xl.here hexec rfl (hb hbytes d15) rfl ?_
        refine sipushV Xl.here hexec rfl 255 (hb hbytes d17) (by decide) ?_
        refine XS.icmpYes Xl.here hexec rfl (pc0 := 20) rfl (hb hbytes d20) rfl (ii_le_t (hp i (by omega))) (by decide) rfl ?_
        refine XS.aloadN Xl.here hexec rfl (hb hbytes d26) rfl rfl ?_
        refine XS.iloadN Xl.here hexec rfl (hb hbytes d27) rfl ?_
        refine XS.iload Xl.here hexec rfl (hb hbytes d28) rfl ?_
        refine i2b Xl.here hexec rfl (hb hbytes d30) rfl ?_
        exact Steps.refl _)
      obtain ⟨T7, X7, p7, st7⟩ := Xl.aput hexec hBk rfl hlt rfl (fits_lo8 (cv A (o + i))) (g := (mkF m 31 #[.val (.ref b), .val (.int (Int32.ofNat (o + i))), .val (.ref d), .val (.int (Int32.ofNat (q + i))), .val (.int (Int32.ofNat len)), .val (.int (Int32.ofNat i)), .val (.int (cv A (o + i)))] [.int (lo8 (cv A (o + i))), .int (Int32.ofNat (q + i)), .ref d])) rfl (rest := []) rfl (hb hbytes d31)
      have c8 : Steps p.tables e below (s₁.setTop (entryFrame m #[.ref b, .int (Int32.ofNat o), .ref d, .int (Int32.ofNat q), .int (Int32.ofNat len)] 7)) (T7.setTop (mkF m 32 #[.val (.ref b), .val (.int (Int32.ofNat (o + i))), .val (.ref d), .val (.int (Int32.ofNat (q + i))), .val (.int (Int32.ofNat len)), .val (.int (Int32.ofNat i)), .val (.int (cv A (o + i)))] [])) := c6.trans (st7 _ (Steps.refl _))
      have c9 : Steps p.tables e below (s₁.setTop (entryFrame m #[.ref b, .int (Int32.ofNat o), .ref d, .int (Int32.ofNat q), .int (Int32.ofNat len)] 7)) (T7.setTop (mkF m 3 #[.val (.ref b), .val (.int (Int32.ofNat (o + i) + 1)), .val (.ref d), .val (.int (Int32.ofNat (q + i) + 1)), .val (.int (Int32.ofNat len)), .val (.int (Int32.ofNat i + 1)), .val (.int (cv A (o + i)))] [])) := c8.trans (by
        refine iincV X7.here hexec rfl 1 (hb hbytes d32) (by decide) rfl rfl ?_
        refine iincV X7.here hexec rfl 1 (hb hbytes d35) (by decide) rfl rfl ?_
        refine iincV X7.here hexec rfl 1 (hb hbytes d38) (by decide) rfl rfl ?_
        refine XS.goto X7.here hexec rfl (pc0 := 41) rfl (hb hbytes d41) (by decide) rfl ?_
        exact Steps.refl _)
      have c10 : Steps p.tables e below (s₁.setTop (entryFrame m #[.ref b, .int (Int32.ofNat o), .ref d, .int (Int32.ofNat q), .int (Int32.ofNat len)] 7)) (T7.setTop (mkF m 3 #[.val (.ref b), .val (.int (Int32.ofNat (o + (i + 1)))), .val (.ref d), .val (.int (Int32.ofNat (q + (i + 1)))), .val (.int (Int32.ofNat len)), .val (.int (Int32.ofNat (i + 1))), .val (.int (cv A (o + i)))] [])) := by
        have := c9
        rw [succ32, succ32, succ32] at this
        exact this
      exact ih (i + 1) (by omega) _ (Or.inr ⟨_, rfl, rfl⟩) T7 _ (by rw [copyLocs_step, ← List.append_assoc]; exact X7) (pl.trans p7) (fl.step (by omega) hlt (by simp)) c10
  obtain ⟨T9, B9, z9, X9, p9, f9, g9⟩ := loop len 0 (by omega) .unset (Or.inl rfl) s₁ B (by simpa [copyLocs] using X0) ⟨hB0.1, fun _ _ => rfl, rfl⟩ (Laid.zero _ _ _) c2
  have c11 : Steps p.tables e below (s₁.setTop (entryFrame m #[.ref b, .int (Int32.ofNat o), .ref d, .int (Int32.ofNat q), .int (Int32.ofNat len)] 7)) (T9.setTop (mkF m 46 #[.val (.ref b), .val (.int (Int32.ofNat (o + len))), .val (.ref d), .val (.int (Int32.ofNat (q + len))), .val (.int (Int32.ofNat len)), .val (.int (Int32.ofNat len)), z9] [.int (Int32.ofNat len)])) := g9.trans (by
    refine XS.iload X9.here hexec rfl (hb hbytes d3) rfl ?_
    refine XS.iload X9.here hexec rfl (hb hbytes d5) rfl ?_
    refine XS.icmpYes X9.here hexec rfl (pc0 := 7) rfl (hb hbytes d7) rfl (ii_ge_t (nlt32 (by omega) (Nat.le_refl _))) (by decide) rfl ?_
    refine XS.iload X9.here hexec rfl (hb hbytes d44) rfl ?_
    exact Steps.refl _)
  exact ⟨T9, some (.int (Int32.ofNat len)), _, _, _, X9, by simp, rfl, rfl, (fun h => by cases h), ⟨rfl, B9, p9.from hh0, f9⟩, fun fs hl => c11.trans (X9.ireturnOut hexec hret rfl (Or.inl rfl) (hb hbytes d46) hl)⟩
end Cmp5
namespace Cmp3
def yN : MethodName := ⟨"java/lang/StringUTF16", "compress", "([CII)[B"⟩
abbrev yB : ByteArray := jdk_52_method_16_code
theorem d0 : decode yB 0 = .ok (.iload_n 2, 1) := by decide +kernel
theorem d1 : decode yB 1 = .ok (.newarray .byte, 2) := by decide +kernel
theorem d3 : decode yB 3 = .ok (.astore_n 3, 1) := by decide +kernel
theorem d4 : decode yB 4 = .ok (.aload_n 0, 1) := by decide +kernel
theorem d5 : decode yB 5 = .ok (.iload_n 1, 1) := by decide +kernel
theorem d6 : decode yB 6 = .ok (.aload_n 3, 1) := by decide +kernel
theorem d7 : decode yB 7 = .ok (.iconst 0, 1) := by decide +kernel
theorem d8 : decode yB 8 = .ok (.iload_n 2, 1) := by decide +kernel
theorem d9 : decode yB 9 = .ok (.invokestatic 115, 3) := by decide +kernel
theorem d12 : decode yB 12 = .ok (.istore 4, 2) := by decide +kernel
theorem d14 : decode yB 14 = .ok (.iload 4, 2) := by decide +kernel
theorem d16 : decode yB 16 = .ok (.iload_n 2, 1) := by decide +kernel
theorem d17 : decode yB 17 = .ok (.if_icmp (.eq) 40, 3) := by decide +kernel
theorem d57 : decode yB 57 = .ok (.aload_n 3, 1) := by decide +kernel
theorem d58 : decode yB 58 = .ok (.areturn, 1) := by decide +kernel
def site : List Cond := [.arrayClass .byte, Cmp5.tab] ++ staticW U16 115 Cmp5.yN
def tab : Cond := tabOf yN yB 6 (some (.array .byte)) site
def P (b : Addr) (A : Cell) (o len : Nat) (args : Array Value) (s : State) : Prop := args = #[.ref b, .int (Int32.ofNat o), .int (Int32.ofNat len)] ∧ Ch b A s ∧ o + len ≤ A.slots.size ∧ len ≤ 536870912 ∧ ∀ i, i < len → ¬ 255 < cv A (o + i)
def E (b : Addr) (A : Cell) (o len : Nat) (r : Option Value) (s u : State) : Prop := NewArr .byte "[B" len (fun j => .int (lo8 (cv A (o + j)))) r s u ∧ u.heap.size = s.heap.size + 1
/-- no char of the range above 255: a new byte[] of their low bytes -/
theorem law (l : Launch) (b : Addr) (A : Cell) (o len : Nat) : Law l yN 3 3 1 18 yB 6 (some (.array .byte)) site (P b A o len) (E b A o len) [] 1 len := by
  refine Law.of_walk (plainFor_of_name (by decide +kernel)) (by decide +kernel) (by decide +kernel) (by decide) (fun _ _ h => by rw [h.1]; rfl) (fun _ U U' hal hh h => ⟨h.1, h.2.1.mv hal hh, h.2.2⟩) (fun r U U' V V' h1 hal h2 h => ⟨NewArr.mv r U U' V V' h1 hal h2 h.1, by rw [h1, h2]; exact h.2⟩) ?_
  intro p e s m args below meth c s₁ X0 hexec hbytes hml hret hlk hnm hown hh0 W hP
  obtain ⟨rfl, hA, l1, l2, hp⟩ := hP
  have a31 := hA.1.2.2.2
  have c1 : Steps p.tables e below (s₁.setTop (entryFrame m #[.ref b, .int (Int32.ofNat o), .int (Int32.ofNat len)] 6)) (s₁.setTop (mkF m 0 #[.val (.ref b), .val (.int (Int32.ofNat o)), .val (.int (Int32.ofNat len)), .unset, .unset, .unset] [])) := entry rfl
  have c2 : Steps p.tables e below (s₁.setTop (entryFrame m #[.ref b, .int (Int32.ofNat o), .int (Int32.ofNat len)] 6)) (s₁.setTop (mkF m 1 #[.val (.ref b), .val (.int (Int32.ofNat o)), .val (.int (Int32.ofNat len)), .unset, .unset, .unset] [.int (Int32.ofNat len)])) := c1.trans (by
    refine XS.iloadN X0.here hexec rfl (hb hbytes d0) rfl ?_
    exact Steps.refl _)
  obtain ⟨T3, B3, X3, ba3, bs3, bv3, bh3, bf3, st3⟩ := X0.anew hexec (atype := .byte) (wk W (.arrayClass .byte)) rfl (by show len * 1 ≤ _; omega) (by omega) (g := (mkF m 1 #[.val (.ref b), .val (.int (Int32.ofNat o)), .val (.int (Int32.ofNat len)), .unset, .unset, .unset] [.int (Int32.ofNat len)])) rfl (hb hbytes d1) (rest := []) rfl (Nat.le_refl _) (by show 0 + len ≤ len; omega)
  rw [hh0] at ba3 st3
  have kp3 : XT.Kept s T3 := (XT.Kept.of_eq hh0).push bh3
  have hA3 := hA.keep X3.warmed.alike (kp3 _ _ hA.1.1)
  have hne : b ≠ s.heap.size := hA.1.ne
  have c4 : Steps p.tables e below (s₁.setTop (entryFrame m #[.ref b, .int (Int32.ofNat o), .int (Int32.ofNat len)] 6)) (T3.setTop (mkF m 3 #[.val (.ref b), .val (.int (Int32.ofNat o)), .val (.int (Int32.ofNat len)), .unset, .unset, .unset] [.ref s.heap.size])) := c2.trans (st3 _ (Steps.refl _))
  have c5 : Steps p.tables e below (s₁.setTop (entryFrame m #[.ref b, .int (Int32.ofNat o), .int (Int32.ofNat len)] 6)) (T3.setTop (mkF m 9 #[.val (.ref b), .val (.int (Int32.ofNat o)), .val (.int (Int32.ofNat len)), .val (.ref s.heap.size), .unset, .unset] [.int (Int32.ofNat len), .int 0, .ref s.heap.size, .int (Int32.ofNat o), .ref b])) := c4.trans (by
    refine XS.astoreN X3.here hexec rfl (hb hbytes d3) rfl rfl rfl ?_
    refine XS.aloadN X3.here hexec rfl (hb hbytes d4) rfl rfl ?_
    refine XS.iloadN X3.here hexec rfl (hb hbytes d5) rfl ?_
    refine XS.aloadN X3.here hexec rfl (hb hbytes d6) rfl rfl ?_
    refine iconstV X3.here hexec rfl 0 (hb hbytes d7) (by decide) ?_
    refine XS.iloadN X3.here hexec rfl (hb hbytes d8) rfl ?_
    exact Steps.refl _)
  obtain ⟨v6, T6, X6, E6, g6⟩ := X3.callS hexec (Cmp5.law l b A s.heap.size B3 o 0 len) hown (wks W (staticW U16 115 Cmp5.yN)) (wk W Cmp5.tab) (W := 0) (Nat.le_of_ble_eq_true rfl) (Nat.le_of_ble_eq_true rfl) (Nat.le_refl _) (by show 0 + len + 0 ≤ len; omega) (g := (mkF m 9 #[.val (.ref b), .val (.int (Int32.ofNat o)), .val (.int (Int32.ofNat len)), .val (.ref s.heap.size), .unset, .unset] [.int (Int32.ofNat len), .int (Int32.ofNat 0), .ref s.heap.size, .int (Int32.ofNat o), .ref b])) rfl (by rw [hml]; rfl) c5 (argsL := [.ref b, .int (Int32.ofNat o), .ref s.heap.size, .int (Int32.ofNat 0), .int (Int32.ofNat len)]) (rest := []) rfl rfl (by show 2 * 0 + 0 ≤ _; decide) (hb hbytes d9) (⟨rfl, hA3, ba3, hne, l1, by rw [bs3]; simp, hp⟩)
  obtain ⟨rfl, B6, p6, f6⟩ := E6
  have c7 : Steps p.tables e below (s₁.setTop (entryFrame m #[.ref b, .int (Int32.ofNat o), .int (Int32.ofNat len)] 6)) (T6.setTop (mkF m 12 #[.val (.ref b), .val (.int (Int32.ofNat o)), .val (.int (Int32.ofNat len)), .val (.ref s.heap.size), .unset, .unset] [.int (Int32.ofNat len)])) := g6
  have c8 : Steps p.tables e below (s₁.setTop (entryFrame m #[.ref b, .int (Int32.ofNat o), .int (Int32.ofNat len)] 6)) (T6.setTop (mkF m 58 #[.val (.ref b), .val (.int (Int32.ofNat o)), .val (.int (Int32.ofNat len)), .val (.ref s.heap.size), .val (.int (Int32.ofNat len)), .unset] [.ref s.heap.size])) := c7.trans (by
    refine XS.istore X6.here hexec rfl (hb hbytes d12) rfl rfl ?_
    refine XS.iload X6.here hexec rfl (hb hbytes d14) rfl ?_
    refine XS.iloadN X6.here hexec rfl (hb hbytes d16) rfl ?_
    refine XS.icmpYes X6.here hexec rfl (pc0 := 17) rfl (hb hbytes d17) rfl (ii_eq_t rfl) (by decide) rfl ?_
    refine XS.aloadN X6.here hexec rfl (hb hbytes d57) rfl rfl ?_
    exact Steps.refl _)
  have X8 := X6.wide (L' := []) (cells' := 1) (slots' := len) (fun x hx hlt => by
    simp only [List.nil_append, copyLocs, List.mem_map, List.mem_range] at hx
    obtain ⟨i, -, rfl⟩ := hx
    exact absurd hlt (Nat.lt_irrefl _)) (Nat.le_refl _) (by omega)
  exact ⟨T6, some (.ref s.heap.size), _, _, _, X8, rfl, rfl, rfl, (fun h => by cases h), ⟨⟨rfl, B6, ba3.like (X3.warmed.alike.symm.trans X6.warmed.alike) p6.1 f6.1 f6.2.1 f6.2.2.1, f6.2.1.trans bv3, by rw [X6.warmed.alike.findClass, f6.1]; exact bf3, by rw [f6.2.2.1, bs3]; simp, fun j hj => by rw [f6.2.2.2 j, if_pos (by omega)]; rfl, kp3.put p6 (Nat.le_refl _)⟩, by rw [p6.2.2, bh3, hh0]; simp⟩, fun fs hl => c8.trans (X8.areturnOut hexec rfl hret rfl (hb hbytes d58) hl)⟩
end Cmp3
namespace CodL
def yN : MethodName := ⟨"java/lang/StringUTF16", "coderFromArrayLen", "([BI)B"⟩
abbrev yB : ByteArray := jdk_52_method_15_code
theorem d0 : decode yB 0 = .ok (.iload_n 1, 1) := by decide +kernel
theorem d1 : decode yB 1 = .ok (.aload_n 0, 1) := by decide +kernel
theorem d2 : decode yB 2 = .ok (.arraylength, 1) := by decide +kernel
theorem d3 : decode yB 3 = .ok (.isub, 1) := by decide +kernel
theorem d4 : decode yB 4 = .ok (.bipush 31, 2) := by decide +kernel
theorem d6 : decode yB 6 = .ok (.iushr, 1) := by decide +kernel
theorem d7 : decode yB 7 = .ok (.i2b, 1) := by decide +kernel
theorem d8 : decode yB 8 = .ok (.ireturn, 1) := by decide +kernel
def site : List Cond := []
def tab : Cond := tabOf yN yB 2 (some .byte) site
def P (d : Addr) (B : Cell) (args : Array Value) (s : State) : Prop := args = #[.ref d, .int (Int32.ofNat B.slots.size)] ∧ Arr .byte d B s
def E (r : Option Value) (s u : State) : Prop := XT.PureE (some (.int 0)) r s u
/-- an array as long as the number of chars: LATIN1 -/
theorem law (l : Launch) (d : Addr) (B : Cell) : Law l yN 2 2 0 0 yB 2 (some .byte) site (P d B) E [] 0 0 := by
  refine Law.of_walk (plainFor_of_name (by decide +kernel)) (by decide +kernel) (by decide +kernel) (by decide) (fun _ _ h => by rw [h.1]; rfl) (fun _ U U' hal hh h => ⟨h.1, h.2.mv hal hh⟩) (fun r U U' V V' h1 hal h2 h => XT.PureE.mv r U U' V V' h1 hal h2 h) ?_
  intro p e s m args below meth c s₁ X0 hexec hbytes hml hret hlk hnm hown hh0 W hP
  obtain ⟨rfl, hB⟩ := hP
  have hB0 := hB.mv X0.warmed.alike hh0
  have c1 : Steps p.tables e below (s₁.setTop (entryFrame m #[.ref d, .int (Int32.ofNat B.slots.size)] 2)) (s₁.setTop (mkF m 0 #[.val (.ref d), .val (.int (Int32.ofNat B.slots.size))] [])) := entry rfl
  have c2 : Steps p.tables e below (s₁.setTop (entryFrame m #[.ref d, .int (Int32.ofNat B.slots.size)] 2)) (s₁.setTop (mkF m 2 #[.val (.ref d), .val (.int (Int32.ofNat B.slots.size))] [.ref d, .int (Int32.ofNat B.slots.size)])) := c1.trans (by
    refine XS.iloadN X0.here hexec rfl (hb hbytes d0) rfl ?_
    refine XS.aloadN X0.here hexec rfl (hb hbytes d1) rfl rfl ?_
    exact Steps.refl _)
  have c3 : Steps p.tables e below (s₁.setTop (entryFrame m #[.ref d, .int (Int32.ofNat B.slots.size)] 2)) (s₁.setTop (mkF m 8 #[.val (.ref d), .val (.int (Int32.ofNat B.slots.size))] [.int (lo8 (ushr (Int32.ofNat B.slots.size - Int32.ofNat B.slots.size) 31))])) := c2.trans (by
    refine X0.alen hexec hB0 rfl rfl (hb hbytes d2) ?_
    refine XS.isub X0.here hexec rfl (hb hbytes d3) rfl ?_
    refine bipushV X0.here hexec rfl 31 (hb hbytes d4) (by decide) ?_
    refine iushr X0.here hexec rfl (hb hbytes d6) rfl ?_
    refine i2b X0.here hexec rfl (hb hbytes d7) rfl ?_
    exact Steps.refl _)
  have e0 : lo8 (ushr (Int32.ofNat B.slots.size - Int32.ofNat B.slots.size) 31) = 0 := by rw [Int32.sub_self]; decide
  rw [e0] at c3
  exact ⟨s₁, some (.int 0), _, _, _, X0, rfl, rfl, rfl, (fun h => by cases h), ⟨rfl, hh0⟩, fun fs hl => c3.trans (X0.ireturnOut hexec hret rfl (Or.inr (Or.inr (Or.inl rfl))) (hb hbytes d8) hl)⟩
end CodL
/-- the String at a is Latin-1 over a new byte[] (the heap's one new cell): the low bytes of the len chars of A from o on; every cell but a is kept -/
def Got (a : Addr) (D : Cell) (fV fC : Field) (A : Cell) (o len : Nat) (r : Option Value) (s u : State) : Prop := r = none ∧ ∃ D' V : Cell, Blank "java/lang/String" a D' u ∧ Same D D' [fV.slot, fC.slot] ∧ D'.slots[fV.slot]? = some (.ref s.heap.size) ∧ D'.slots[fC.slot]? = some (.int 0) ∧ Arr .byte s.heap.size V u ∧ V.vm = .none ∧ u.vm.findClass "[B" = some V.cls ∧ V.slots.size = len ∧ (∀ j, j < len → V.slots[j]? = some (.int (lo8 (cv A (o + j))))) ∧ (∀ (y : Addr) (c : Cell), y ≠ a → s.heap[y]? = some c → u.heap[y]? = some c) ∧ u.heap.size = s.heap.size + 1
theorem Got.mv {a : Addr} {D A : Cell} {fV fC : Field} {o len : Nat} : ∀ r (U U' V V' : State), U'.heap = U.heap → V.vm.Alike V'.vm → V'.heap = V.heap → Got a D fV fC A o len r U V → Got a D fV fC A o len r U' V' :=
  fun r U U' V V' h1 hal h2 ⟨e0, D', X, a1, a2, a3, a4, a5, a6, a7, a8, a9, a10, a11⟩ => ⟨e0, D', X, a1.mv hal h2, a2, by rw [h1]; exact a3, a4, by rw [h1]; exact a5.mv hal h2, a6, by rw [hal.findClass]; exact a7, a8, a9, by rw [h1, h2]; exact a10, by rw [h1, h2]; exact a11⟩
namespace New4
def yN : MethodName := ⟨"java/lang/String", "<init>", "([CIILjava/lang/Void;)V"⟩
abbrev yB : ByteArray := jdk_42_method_149_code
theorem d0 : decode yB 0 = .ok (.aload_n 0, 1) := by decide +kernel
theorem d1 : decode yB 1 = .ok (.invokespecial 1, 3) := by decide +kernel
theorem d4 : decode yB 4 = .ok (.iload_n 3, 1) := by decide +kernel
theorem d5 : decode yB 5 = .ok (.ifCond (.ne) 22, 3) := by decide +kernel
theorem d27 : decode yB 27 = .ok (.getstatic 38, 3) := by decide +kernel
theorem d30 : decode yB 30 = .ok (.ifCond (.eq) 28, 3) := by decide +kernel
theorem d33 : decode yB 33 = .ok (.aload_n 1, 1) := by decide +kernel
theorem d34 : decode yB 34 = .ok (.iload_n 2, 1) := by decide +kernel
theorem d35 : decode yB 35 = .ok (.iload_n 3, 1) := by decide +kernel
theorem d36 : decode yB 36 = .ok (.invokestatic 177, 3) := by decide +kernel
theorem d39 : decode yB 39 = .ok (.astore 5, 2) := by decide +kernel
theorem d41 : decode yB 41 = .ok (.aload_n 0, 1) := by decide +kernel
theorem d42 : decode yB 42 = .ok (.aload 5, 2) := by decide +kernel
theorem d44 : decode yB 44 = .ok (.iload_n 3, 1) := by decide +kernel
theorem d45 : decode yB 45 = .ok (.invokestatic 47, 3) := by decide +kernel
theorem d48 : decode yB 48 = .ok (.putfield 15, 3) := by decide +kernel
theorem d51 : decode yB 51 = .ok (.aload_n 0, 1) := by decide +kernel
theorem d52 : decode yB 52 = .ok (.aload 5, 2) := by decide +kernel
theorem d54 : decode yB 54 = .ok (.putfield 9, 3) := by decide +kernel
theorem d57 : decode yB 57 = .ok (.return_, 1) := by decide +kernel
def site : List Cond := [.fieldLink "java/lang/String" 38 "java/lang/String" "COMPACT_STRINGS" "Z", Cmp3.tab, CodL.tab, .laysFinal "java/lang/String" "java/lang/String" "value" "[B", .fieldLink "java/lang/String" 9 "java/lang/String" "value" "[B", .laysFinal "java/lang/String" "java/lang/String" "coder" "B", .fieldLink "java/lang/String" 15 "java/lang/String" "coder" "B"] ++ objW "java/lang/String" 1 ++ staticW "java/lang/String" 177 Cmp3.yN ++ staticW "java/lang/String" 47 CodL.yN
def tab : Cond := tabOf yN yB 6 none site
def P (a : Addr) (D : Cell) (fV fC : Field) (b : Addr) (A : Cell) (z : Int32) (o len : Nat) (args : Array Value) (s : State) : Prop := args = #[.ref a, .ref b, .int (Int32.ofNat o), .int (Int32.ofNat len), .null] ∧ Blank "java/lang/String" a D s ∧ Found "java/lang/String" "value" "[B" fV s ∧ Found "java/lang/String" "coder" "B" fC s ∧ Ch b A s ∧ StaticIs s "java/lang/String" "COMPACT_STRINGS" "Z" (.int z) ∧ ¬ z = 0 ∧ 0 < len ∧ o + len ≤ A.slots.size ∧ len ≤ 536870912 ∧ ∀ i, i < len → ¬ 255 < cv A (o + i)
def E (a : Addr) (D : Cell) (fV fC : Field) (A : Cell) (o len : Nat) (r : Option Value) (s u : State) : Prop := Got a D fV fC A o len r s u
/-- len > 0, no char of the range above 255: a Latin-1 String of their low bytes -/
theorem law (l : Launch) (a : Addr) (D : Cell) (fV fC : Field) (b : Addr) (A : Cell) (z : Int32) (o len : Nat) : Law l yN 5 4 2 35 yB 6 none site (P a D fV fC b A z o len) (E a D fV fC A o len) [⟨a, fC.slot⟩, ⟨a, fV.slot⟩] 1 len := by
  refine Law.of_walk (plainFor_of_name (by decide +kernel)) (by decide +kernel) (by decide +kernel) (by decide) (fun _ _ h => by rw [h.1]; rfl) (fun _ U U' hal hh h => ⟨h.1, h.2.1.mv hal hh, h.2.2.1.al hal, h.2.2.2.1.al hal, h.2.2.2.2.1.mv hal hh, h.2.2.2.2.2.1.there hal hh, h.2.2.2.2.2.2⟩) (fun r U U' V V' h1 hal h2 h => Got.mv r U U' V V' h1 hal h2 h) ?_
  intro p e s m args below meth c s₁ X0 hexec hbytes hml hret hlk hnm hown hh0 W hP
  obtain ⟨rfl, hB, f1, f2, hA, s1, hz, l0, l1, l2, hp⟩ := hP
  have a31 := hA.1.2.2.2
  have c1 : Steps p.tables e below (s₁.setTop (entryFrame m #[.ref a, .ref b, .int (Int32.ofNat o), .int (Int32.ofNat len), .null] 6)) (s₁.setTop (mkF m 0 #[.val (.ref a), .val (.ref b), .val (.int (Int32.ofNat o)), .val (.int (Int32.ofNat len)), .val .null, .unset] [])) := entry rfl
  have c2 : Steps p.tables e below (s₁.setTop (entryFrame m #[.ref a, .ref b, .int (Int32.ofNat o), .int (Int32.ofNat len), .null] 6)) (s₁.setTop (mkF m 1 #[.val (.ref a), .val (.ref b), .val (.int (Int32.ofNat o)), .val (.int (Int32.ofNat len)), .val .null, .unset] [.ref a])) := c1.trans (by
    refine XS.aloadN X0.here hexec rfl (hb hbytes d0) rfl rfl ?_
    exact Steps.refl _)
  obtain ⟨T3, X3, q3, st3⟩ := X0.oinit hexec hown (wks W (objW "java/lang/String" 1)) (g := (mkF m 1 #[.val (.ref a), .val (.ref b), .val (.int (Int32.ofNat o)), .val (.int (Int32.ofNat len)), .val .null, .unset] [.ref a])) rfl (by rw [hml]; rfl) (rest := []) rfl (hb hbytes d1) (W := 0) (by show 2 * 0 + 0 ≤ _; decide) (Nat.le_of_ble_eq_true rfl) (Nat.le_of_ble_eq_true rfl)
  have hh3 := q3.trans hh0
  have c4 : Steps p.tables e below (s₁.setTop (entryFrame m #[.ref a, .ref b, .int (Int32.ofNat o), .int (Int32.ofNat len), .null] 6)) (T3.setTop (mkF m 27 #[.val (.ref a), .val (.ref b), .val (.int (Int32.ofNat o)), .val (.int (Int32.ofNat len)), .val .null, .unset] [])) := (c2.trans (st3 _ (Steps.refl _))).trans (by
    refine XS.iloadN X3.here hexec rfl (hb hbytes d4) rfl ?_
    refine XS.ifYes X3.here hexec rfl (pc0 := 5) rfl (hb hbytes d5) rfl (i0_ne_t (nz32 (by omega) l0)) (by decide) rfl ?_
    exact Steps.refl _)
  obtain ⟨T5, X5, q5, st5⟩ := X3.sget hexec hown (wk W (.fieldLink "java/lang/String" 38 "java/lang/String" "COMPACT_STRINGS" "Z")) s1 (fun _ _ h => by rw [hh3]; exact h) (g := (mkF m 27 #[.val (.ref a), .val (.ref b), .val (.int (Int32.ofNat o)), .val (.int (Int32.ofNat len)), .val .null, .unset] [])) rfl (hb hbytes d27)
  have hh5 := q5.trans hh3
  have c6 : Steps p.tables e below (s₁.setTop (entryFrame m #[.ref a, .ref b, .int (Int32.ofNat o), .int (Int32.ofNat len), .null] 6)) (T5.setTop (mkF m 30 #[.val (.ref a), .val (.ref b), .val (.int (Int32.ofNat o)), .val (.int (Int32.ofNat len)), .val .null, .unset] [.int z])) := c4.trans (st5 _ (Steps.refl _))
  have c7 : Steps p.tables e below (s₁.setTop (entryFrame m #[.ref a, .ref b, .int (Int32.ofNat o), .int (Int32.ofNat len), .null] 6)) (T5.setTop (mkF m 36 #[.val (.ref a), .val (.ref b), .val (.int (Int32.ofNat o)), .val (.int (Int32.ofNat len)), .val .null, .unset] [.int (Int32.ofNat len), .int (Int32.ofNat o), .ref b])) := c6.trans (by
    refine XS.ifNo X5.here hexec rfl (hb hbytes d30) rfl (i0_eq_f hz) ?_
    refine XS.aloadN X5.here hexec rfl (hb hbytes d33) rfl rfl ?_
    refine XS.iloadN X5.here hexec rfl (hb hbytes d34) rfl ?_
    refine XS.iloadN X5.here hexec rfl (hb hbytes d35) rfl ?_
    exact Steps.refl _)
  obtain ⟨v8, T8, X8, E8, g8⟩ := X5.callS hexec (Cmp3.law l b A o len) hown (wks W (staticW "java/lang/String" 177 Cmp3.yN)) (wk W Cmp3.tab) (W := 0) (Nat.le_of_ble_eq_true rfl) (Nat.le_of_ble_eq_true rfl) (Nat.le_refl _) (by show 0 + len ≤ len; omega) (g := (mkF m 36 #[.val (.ref a), .val (.ref b), .val (.int (Int32.ofNat o)), .val (.int (Int32.ofNat len)), .val .null, .unset] [.int (Int32.ofNat len), .int (Int32.ofNat o), .ref b])) rfl (by rw [hml]; rfl) c7 (argsL := [.ref b, .int (Int32.ofNat o), .int (Int32.ofNat len)]) (rest := []) rfl rfl (by show 2 * 0 + 0 ≤ _; decide) (hb hbytes d36) (⟨rfl, hA.mv X5.warmed.alike hh5, l1, l2, hp⟩)
  obtain ⟨e8, z8⟩ := E8
  obtain ⟨rfl, N, n1, n2, n3, n4, n5, n6⟩ := NewArr.mv _ T5 s _ _ hh5.symm (Vm.Alike.refl _) rfl e8
  rw [hh5] at z8
  have hB1 := hB.keep X8.warmed.alike (n6 _ _ hB.1)
  have hne : s.heap.size ≠ a := (Nat.ne_of_lt (Array.getElem?_eq_some_iff.mp hB.1).1).symm
  have c9 : Steps p.tables e below (s₁.setTop (entryFrame m #[.ref a, .ref b, .int (Int32.ofNat o), .int (Int32.ofNat len), .null] 6)) (T8.setTop (mkF m 39 #[.val (.ref a), .val (.ref b), .val (.int (Int32.ofNat o)), .val (.int (Int32.ofNat len)), .val .null, .unset] [.ref s.heap.size])) := g8
  have c10 : Steps p.tables e below (s₁.setTop (entryFrame m #[.ref a, .ref b, .int (Int32.ofNat o), .int (Int32.ofNat len), .null] 6)) (T8.setTop (mkF m 45 #[.val (.ref a), .val (.ref b), .val (.int (Int32.ofNat o)), .val (.int (Int32.ofNat len)), .val .null, .val (.ref s.heap.size)] [.int (Int32.ofNat N.slots.size), .ref s.heap.size, .ref a])) := by
    have hc : Steps p.tables e below (s₁.setTop (entryFrame m #[.ref a, .ref b, .int (Int32.ofNat o), .int (Int32.ofNat len), .null] 6)) (T8.setTop (mkF m 45 #[.val (.ref a), .val (.ref b), .val (.int (Int32.ofNat o)), .val (.int (Int32.ofNat len)), .val .null, .val (.ref s.heap.size)] [.int (Int32.ofNat len), .ref s.heap.size, .ref a])) := c9.trans (by
      refine XS.astore X8.here hexec rfl (hb hbytes d39) rfl rfl rfl ?_
      refine XS.aloadN X8.here hexec rfl (hb hbytes d41) rfl rfl ?_
      refine XS.aload X8.here hexec rfl (hb hbytes d42) rfl rfl ?_
      refine XS.iloadN X8.here hexec rfl (hb hbytes d44) rfl ?_
      exact Steps.refl _)
    rw [n4]; exact hc
  obtain ⟨v11, T11, X11, E11, g11⟩ := X8.callS hexec (CodL.law l s.heap.size N) hown (wks W (staticW "java/lang/String" 47 CodL.yN)) (wk W CodL.tab) (W := 1) (Nat.le_of_ble_eq_true rfl) (Nat.le_of_ble_eq_true rfl) (Nat.le_refl _) (by show 0 + len + 0 ≤ len; omega) (g := (mkF m 45 #[.val (.ref a), .val (.ref b), .val (.int (Int32.ofNat o)), .val (.int (Int32.ofNat len)), .val .null, .val (.ref s.heap.size)] [.int (Int32.ofNat N.slots.size), .ref s.heap.size, .ref a])) rfl (by rw [hml]; rfl) c10 (argsL := [.ref s.heap.size, .int (Int32.ofNat N.slots.size)]) (rest := [.ref a]) rfl rfl (by show 2 * 0 + (1 + 0) ≤ _; decide) (hb hbytes d45) (⟨rfl, n1⟩)
  obtain ⟨rfl, q11⟩ := E11
  have hB11 := hB1.mv (X8.warmed.alike.symm.trans X11.warmed.alike) q11
  have c12 : Steps p.tables e below (s₁.setTop (entryFrame m #[.ref a, .ref b, .int (Int32.ofNat o), .int (Int32.ofNat len), .null] 6)) (T11.setTop (mkF m 48 #[.val (.ref a), .val (.ref b), .val (.int (Int32.ofNat o)), .val (.int (Int32.ofNat len)), .val .null, .val (.ref s.heap.size)] [.int 0, .ref a])) := g11
  obtain ⟨T13, X13, p13, bl13, sl13, st13⟩ := X11.finit hexec hown (wk W (.fieldLink "java/lang/String" 15 "java/lang/String" "coder" "B")) (Or.inr ⟨_, (wk W (.laysFinal "java/lang/String" "java/lang/String" "coder" "B"))⟩) (Or.inl ⟨rfl, hnm⟩) f2 (Or.inl rfl) hB11 (t := .byte) (by decide +kernel) rfl (g := (mkF m 48 #[.val (.ref a), .val (.ref b), .val (.int (Int32.ofNat o)), .val (.int (Int32.ofNat len)), .val .null, .val (.ref s.heap.size)] [.int 0, .ref a])) rfl (rest := []) rfl (hb hbytes d48)
  have c14 : Steps p.tables e below (s₁.setTop (entryFrame m #[.ref a, .ref b, .int (Int32.ofNat o), .int (Int32.ofNat len), .null] 6)) (T13.setTop (mkF m 54 #[.val (.ref a), .val (.ref b), .val (.int (Int32.ofNat o)), .val (.int (Int32.ofNat len)), .val .null, .val (.ref s.heap.size)] [.ref s.heap.size, .ref a])) := (c12.trans (st13 _ (Steps.refl _))).trans (by
    refine XS.aloadN X13.here hexec rfl (hb hbytes d51) rfl rfl ?_
    refine XS.aload X13.here hexec rfl (hb hbytes d52) rfl rfl ?_
    exact Steps.refl _)
  obtain ⟨T15, X15, p15, bl15, sl15, st15⟩ := X13.finit hexec hown (wk W (.fieldLink "java/lang/String" 9 "java/lang/String" "value" "[B")) (Or.inr ⟨_, (wk W (.laysFinal "java/lang/String" "java/lang/String" "value" "[B"))⟩) (Or.inl ⟨rfl, hnm⟩) f1 (Or.inl rfl) bl13 (t := (.array .byte)) (by decide +kernel) rfl (g := (mkF m 54 #[.val (.ref a), .val (.ref b), .val (.int (Int32.ofNat o)), .val (.int (Int32.ofNat len)), .val .null, .val (.ref s.heap.size)] [.ref s.heap.size, .ref a])) rfl (rest := []) rfl (hb hbytes d54)
  have c16 : Steps p.tables e below (s₁.setTop (entryFrame m #[.ref a, .ref b, .int (Int32.ofNat o), .int (Int32.ofNat len), .null] 6)) (T15.setTop (mkF m 57 #[.val (.ref a), .val (.ref b), .val (.int (Int32.ofNat o)), .val (.int (Int32.ofNat len)), .val .null, .val (.ref s.heap.size)] [])) := c14.trans (st15 _ (Steps.refl _))
  have ap := apart (Or.inr ⟨_, (wk W (.laysFinal "java/lang/String" "java/lang/String" "value" "[B"))⟩) (Or.inr ⟨_, (wk W (.laysFinal "java/lang/String" "java/lang/String" "coder" "B"))⟩) f1 f2 (t₁ := .array .byte) (t₂ := .byte) (by decide +kernel) (by decide +kernel) (by decide)
  have al := X8.warmed.alike.symm.trans X15.warmed.alike
  have n7 : T11.heap[s.heap.size]? = some N := by rw [q11]; exact n1.1
  exact ⟨T15, none, _, _, _, X15, by simp, rfl, by omega, (fun _ => rfl), ⟨rfl, _, N, bl15, ((Same.refl D _).set _ (by simp)).set _ (by simp), sl15, (Cell.slots_setSlot_ne _ ap).trans sl13, n1.keep al (p15.other hne (p13.other hne n7)), n2, by rw [al.findClass]; exact n3, n4, n5, fun y c h1 h2 => p15.other h1 (p13.other h1 (by rw [q11]; exact n6 y c h2)), by rw [p15.2.2, p13.2.2, q11]; exact z8⟩, fun fs hl => c16.trans (X15.returnOut hexec hret (hb hbytes d57) hl)⟩
end New4
namespace New1
def yN : MethodName := ⟨"java/lang/String", "<init>", "([C)V"⟩
abbrev yB : ByteArray := jdk_42_method_3_code
theorem d0 : decode yB 0 = .ok (.aload_n 0, 1) := by decide +kernel
theorem d1 : decode yB 1 = .ok (.aload_n 1, 1) := by decide +kernel
theorem d2 : decode yB 2 = .ok (.iconst 0, 1) := by decide +kernel
theorem d3 : decode yB 3 = .ok (.aload_n 1, 1) := by decide +kernel
theorem d4 : decode yB 4 = .ok (.arraylength, 1) := by decide +kernel
theorem d5 : decode yB 5 = .ok (.aconst_null, 1) := by decide +kernel
theorem d6 : decode yB 6 = .ok (.invokespecial 27, 3) := by decide +kernel
theorem d9 : decode yB 9 = .ok (.return_, 1) := by decide +kernel
def site : List Cond := [New4.tab] ++ initW "java/lang/String" 27 New4.yN
def tab : Cond := tabOf yN yB 2 none site
def P (a : Addr) (D : Cell) (fV fC : Field) (b : Addr) (A : Cell) (z : Int32) (args : Array Value) (s : State) : Prop := args = #[.ref a, .ref b] ∧ Blank "java/lang/String" a D s ∧ Found "java/lang/String" "value" "[B" fV s ∧ Found "java/lang/String" "coder" "B" fC s ∧ Ch b A s ∧ StaticIs s "java/lang/String" "COMPACT_STRINGS" "Z" (.int z) ∧ ¬ z = 0 ∧ 0 < A.slots.size ∧ A.slots.size ≤ 536870912 ∧ ∀ i, i < A.slots.size → ¬ 255 < cv A i
def E (a : Addr) (D : Cell) (fV fC : Field) (A : Cell) (r : Option Value) (s u : State) : Prop := Got a D fV fC A 0 A.slots.size r s u
/-- new String(chars), not empty, no char above 255: a Latin-1 String of their low bytes -/
theorem law (l : Launch) (a : Addr) (D : Cell) (fV fC : Field) (b : Addr) (A : Cell) (z : Int32) : Law l yN 2 1 3 52 yB 2 none site (P a D fV fC b A z) (E a D fV fC A) [⟨a, fC.slot⟩, ⟨a, fV.slot⟩] 1 A.slots.size := by
  refine Law.of_walk (plainFor_of_name (by decide +kernel)) (by decide +kernel) (by decide +kernel) (by decide) (fun _ _ h => by rw [h.1]; rfl) (fun _ U U' hal hh h => ⟨h.1, h.2.1.mv hal hh, h.2.2.1.al hal, h.2.2.2.1.al hal, h.2.2.2.2.1.mv hal hh, h.2.2.2.2.2.1.there hal hh, h.2.2.2.2.2.2⟩) (fun r U U' V V' h1 hal h2 h => Got.mv r U U' V V' h1 hal h2 h) ?_
  intro p e s m args below meth c s₁ X0 hexec hbytes hml hret hlk hnm hown hh0 W hP
  obtain ⟨rfl, hB, f1, f2, hA, s1, hz, l0, l2, hp⟩ := hP
  have c1 : Steps p.tables e below (s₁.setTop (entryFrame m #[.ref a, .ref b] 2)) (s₁.setTop (mkF m 0 #[.val (.ref a), .val (.ref b)] [])) := entry rfl
  have c2 : Steps p.tables e below (s₁.setTop (entryFrame m #[.ref a, .ref b] 2)) (s₁.setTop (mkF m 6 #[.val (.ref a), .val (.ref b)] [.null, .int (Int32.ofNat A.slots.size), .int 0, .ref b, .ref a])) := c1.trans (by
    refine XS.aloadN X0.here hexec rfl (hb hbytes d0) rfl rfl ?_
    refine XS.aloadN X0.here hexec rfl (hb hbytes d1) rfl rfl ?_
    refine iconstV X0.here hexec rfl 0 (hb hbytes d2) (by decide) ?_
    refine XS.aloadN X0.here hexec rfl (hb hbytes d3) rfl rfl ?_
    refine X0.alen hexec (hA.1.mv X0.warmed.alike hh0) rfl rfl (hb hbytes d4) ?_
    refine XS.aconstNull X0.here hexec rfl (hb hbytes d5) ?_
    exact Steps.refl _)
  obtain ⟨v3, T3, X3, E3, g3⟩ := X0.callN hexec (New4.law l a D fV fC b A z 0 A.slots.size) rfl hown (wks W (initW "java/lang/String" 27 New4.yN)) (W New4.tab (by simp only [site, List.mem_cons, List.mem_append, true_or, or_true])) (W := 0) (Nat.le_of_ble_eq_true rfl) (Nat.le_of_ble_eq_true rfl) (Nat.le_refl _) (by show 0 + A.slots.size ≤ A.slots.size; omega) (g := (mkF m 6 #[.val (.ref a), .val (.ref b)] [.null, .int (Int32.ofNat A.slots.size), .int (Int32.ofNat 0), .ref b, .ref a])) rfl (by rw [hml]; rfl) c2 (argsL := [.ref b, .int (Int32.ofNat 0), .int (Int32.ofNat A.slots.size), .null]) (rest := []) rfl rfl (by show 2 * 0 + 0 ≤ _; decide) (hb hbytes d6) (⟨rfl, hB.mv X0.warmed.alike hh0, f1.al X0.warmed.alike, f2.al X0.warmed.alike, hA.mv X0.warmed.alike hh0, s1.there X0.warmed.alike hh0, hz, l0, by omega, l2, fun i hi => by rw [Nat.zero_add]; exact hp i hi⟩)
  have e0 := Got.mv _ s₁ s _ _ hh0.symm (Vm.Alike.refl _) rfl E3
  obtain rfl := e0.1
  have c4 : Steps p.tables e below (s₁.setTop (entryFrame m #[.ref a, .ref b] 2)) (T3.setTop (mkF m 9 #[.val (.ref a), .val (.ref b)] [])) := g3
  exact ⟨T3, none, _, _, _, X3, by simp, rfl, by omega, (fun _ => rfl), e0, fun fs hl => c4.trans (X3.returnOut hexec hret (hb hbytes d9) hl)⟩
theorem pays {l : Launch} {R : Room} {p : Program} {e : Env} {below : List Frame} {s : State} {sargs : Array Value} {len W : Nat} (a : Addr) (D : Cell) (fV fC : Field) (b : Addr) (A : Cell) (z : Int32) (htab : tab.before sargs s = true) (hfr : 4 ≤ R.frames) (hlo : W + 65 ≤ R.locals) :
    Back l R p e below s sargs yN len W (fun A₁ a₁ => A₁.cells + 1 ≤ R.cells ∧ A₁.slots + A.slots.size ≤ R.slots ∧ P a D fV fC b A z a₁ A₁.U) (fun A₁ _ v₁ B₁ => E a D fV fC A v₁ A₁.U B₁.U ∧ B₁.locs = A₁.locs ++ [⟨a, fC.slot⟩, ⟨a, fV.slot⟩] ∧ B₁.cells = A₁.cells + 1 ∧ B₁.slots = A₁.slots + A.slots.size) :=
  (law l a D fV fC b A z).pays htab hfr (by omega)
end New1
/-- the byte, read back as charAt reads it, is the char -/
theorem lo8_mask {x : Int32} (h0 : ¬ x < 0) (h1 : ¬ 255 < x) : lo8 x &&& 255 = x := by
  have t : ∀ k : Fin 256, lo8 (Int32.ofNat k.val) &&& 255 = Int32.ofNat k.val := by decide +kernel
  rw [Int32.lt_iff_toInt_lt] at h0 h1
  have e0 : (0 : Int32).toInt = 0 := rfl
  have e1 : (255 : Int32).toInt = 255 := rfl
  obtain ⟨k, hk⟩ : ∃ k : Nat, x.toInt = k := ⟨x.toInt.toNat, by omega⟩
  have hx : x = Int32.ofNat k := Int32.toInt_inj.mp (by rw [hk, Int32.toInt_ofNat_small (by omega)])
  rw [hx]
  exact t ⟨k, by omega⟩
end StrChars
namespace StrChars.Road
open Jvm Sem ClassFile Op Lib Jvm.Stand Jvm.Free Jvm.Free.XT
open Jvm.Lib.Cold (StaticIs)
abbrev ST : String := "java/lang/String"
/-- every table word that New1's law asks, flat -/
abbrev words : List Jvm.Cond := [.code New1.yN New1.yB 2 none, .initialized ST, .methodLink ST 27 New4.yN, .instanceMethod New4.yN,
  .code New4.yN New4.yB 6 none, .fieldLink ST 38 ST "COMPACT_STRINGS" "Z", .laysFinal ST ST "value" "[B", .fieldLink ST 9 ST "value" "[B", .laysFinal ST ST "coder" "B", .fieldLink ST 15 ST "coder" "B",
  .methodLink ST 1 Lib.objectInit, .instanceMethod Lib.objectInit, .code Lib.objectInit ⟨#[0xb1]⟩ 1 none, .methodLink ST 177 Cmp3.yN, .static Cmp3.yN, .methodLink ST 47 CodL.yN, .static CodL.yN,
  .code Cmp3.yN Cmp3.yB 6 (some (.array .byte)), .initialized U16, .arrayClass .byte, .methodLink U16 115 Cmp5.yN, .static Cmp5.yN, .code Cmp5.yN Cmp5.yB 7 (some .int), .code CodL.yN CodL.yB 2 (some .byte)]
theorem tab_of {a : Array Value} {s : State} (h : ∀ w ∈ words, w.before a s = true) : New1.tab.before a s = true := by
  have h5 : Cmp5.tab.before a s = true := unparts (wk h (.code Cmp5.yN Cmp5.yB 7 (some .int))) (wks h (.initialized Cmp5.yN.cls :: Cmp5.site))
  have hc : CodL.tab.before a s = true := unparts (wk h (.code CodL.yN CodL.yB 2 (some .byte))) (wks h (.initialized CodL.yN.cls :: CodL.site))
  have q5 : ∀ w ∈ Cmp5.tab :: words, w.before a s = true := fun w hw => (List.mem_cons.mp hw).elim (fun e => e ▸ h5) (h w)
  have h3 : Cmp3.tab.before a s = true := unparts (wk q5 (.code Cmp3.yN Cmp3.yB 6 (some (.array .byte)))) (wks q5 (.initialized Cmp3.yN.cls :: Cmp3.site))
  have q3 : ∀ w ∈ Cmp3.tab :: CodL.tab :: words, w.before a s = true := fun w hw => (List.mem_cons.mp hw).elim (fun e => e ▸ h3) fun hw => (List.mem_cons.mp hw).elim (fun e => e ▸ hc) (h w)
  have h4 : New4.tab.before a s = true := unparts (wk q3 (.code New4.yN New4.yB 6 none)) (wks q3 (.initialized New4.yN.cls :: New4.site))
  have q4 : ∀ w ∈ New4.tab :: words, w.before a s = true := fun w hw => (List.mem_cons.mp hw).elim (fun e => e ▸ h4) (h w)
  exact unparts (wk q4 (.code New1.yN New1.yB 2 none)) (wks q4 (.initialized New1.yN.cls :: New1.site))
/-- the words ride from the start Z to the walk's own state -/
theorem moved {Z s : State} {a0 args : Array Value} (hZ : Z.Warmed39 s.vm) (hw : ∀ d ∈ words, d.before a0 Z = true) : ∀ d ∈ words, d.before args s = true := fun d hd => by
  have q := hw d hd
  have t : ∀ d ∈ words, d = .arrayClass .byte ∨ (d.onTables && d.keepsFace) = true := by decide +kernel
  rcases t d hd with rfl | t
  · exact RoadKit.mvA hZ q
  · exact RoadKit.mv hZ q t
/-- WHAT COMES BACK, over the tables of the start Z: h the heap at the call, h' behind it -/
def Q (Z : State) (x : Addr) (A : Cell) (h : Heap) (v : Option Value) (h' : Heap) (L : List Loc) : Prop := v = none ∧ (∀ y ∈ L, y.base = x) ∧ RoadKit.Keep h h' [x] ∧ h'.size = h.size + 1 ∧ RoadKit.Exa Z h' x ST ∧ RoadKit.Fld Z h' x ST "value" "[B" (.ref h.size) ∧ RoadKit.Fld Z h' x ST "coder" "B" (.int 0) ∧
  (∃ V : Cell, RoadKit.Arr Z h' h.size V .byte ∧ V.vm = .none ∧ Z.vm.findClass "[B" = some V.cls ∧ V.slots.size = A.slots.size ∧ ∀ j, j < A.slots.size → V.slots[j]? = some (.int (lo8 (cv A j)))) ∧
  ∀ (O n d : String) (w : Value), RoadKit.Fld Z h x O n d w → RoadKit.slotOf Z O n d ≠ RoadKit.slotOf Z ST "value" "[B" → RoadKit.slotOf Z O n d ≠ RoadKit.slotOf Z ST "coder" "B" → RoadKit.Fld Z h' x O n d w
/-- **new String(chars) AT A CALL, IN THE ROAD'S FORM**: for specialBack behind newO: x the fresh String, b the char[] with the cell A -/
theorem back {p : Program} {l : Launch} {e : Env} {R : Room} {s : State} {args : Array Value} {below : List Frame} {len W : Nat} {Z : State} {a0 : Array Value} {h : Heap} (hZ : Z.Warmed39 s.vm) (hw : ∀ d ∈ words, d.before a0 Z = true) {kI : Nat} (wi : (Jvm.Cond.instantiable ST kI).before a0 Z = true)
    {x b : Addr} {A : Cell} {z : Int32} {v0 c0 : Value} (E : RoadKit.Exa Z h x ST) (V : RoadKit.Fld Z h x ST "value" "[B" v0) (C : RoadKit.Fld Z h x ST "coder" "B" c0) (K : RoadKit.Arr Z h b A .char) (hty : Typed .char A) (S : RoadKit.Sta Z h ST "COMPACT_STRINGS" "Z" (.int z)) (hz : ¬ z = 0)
    (l0 : 0 < A.slots.size) (l2 : A.slots.size ≤ 536870912) (hp : ∀ i, i < A.slots.size → ¬ 255 < cv A i) (hfr : 4 ≤ R.frames) (hlo : W + 65 ≤ R.locals) :
    Back l R p e below s args New1.yN len W (fun P a => a = #[.ref x, .ref b] ∧ P.U.heap = h ∧ P.cells + 1 ≤ R.cells ∧ P.slots + A.slots.size ≤ R.slots)
      (fun P _ v B => ∃ L, Q Z x A h v B.U.heap L ∧ B.locs = P.locs ++ L ∧ B.cells = P.cells + 1 ∧ B.slots = P.slots + A.slots.size) := by
  intro m meth c P g ig mk a X hg hsize hdg hW hn hp'
  obtain ⟨rfl, rfl, r1, r2⟩ := hp'
  have al : Z.vm.Alike P.U.vm := hZ.alike.trans X.warmed.alike
  obtain ⟨D, cfV, kV, iV, fV, hD, gV, stV, knV, obV, asV, slV⟩ := id V
  obtain ⟨D', cfC, kC, iC, fC, hD', gC, stC, -, -, asC, slC⟩ := id C
  cases hD.symm.trans hD'
  obtain ⟨D2, kD, e1, e2, e3, e4, e5⟩ := id E
  cases hD.symm.trans e1
  obtain ⟨c2, k2, i1, i2, i3, -⟩ := Cond.instantiable_spec wi
  cases e2.symm.trans i1
  cases e3.symm.trans i2
  obtain ⟨kU, u1, u2⟩ := al.2.2 _ _ e3
  have hB : Blank ST x D P.U := ⟨hD, ⟨knV, fun q hq => by rw [hq] at obV; cases obV⟩, by rw [al.findClass]; exact e2, kU, u1, by rw [u2]; exact i3, by rw [u2]; exact e5 i3⟩
  have F1 : Found ST "value" "[B" fV P.U := ⟨SBG.found_only al ⟨cfV, kV, iV, gV⟩, stV⟩
  have F2 : Found ST "coder" "B" fC P.U := ⟨SBG.found_only al ⟨cfC, kC, iC, gC⟩, stC⟩
  have hA : Ch b A P.U := ⟨⟨K.1, State.isArrayOf_alike al K.2.1, K.2.2, by omega⟩, hty⟩
  have hS : StaticIs P.U ST "COMPACT_STRINGS" "Z" (.int z) := by
    obtain ⟨cfS, iS, kS, fS, st, cS, t1, t2, t3, t4, t5, t6, t7⟩ := S
    exact StaticIs.there (s := { Z with heap := P.U.heap }) ⟨cfS, iS, kS, fS, st, cS, t1, t2, t3, t4, t5, (fun q => by rw [q] at t6; cases t6), t7⟩ al rfl
  obtain ⟨v, B, X', ⟨⟨hv, E', V', q1, q2, q3, q4, q5, q6, q7, q8, q9, q10, q11⟩, hl, hc, hs⟩, st⟩ := New1.pays x D fV fC b A z (tab_of (moved hZ hw)) hfr hlo m meth c P g ig mk _ X hg hsize hdg hW hn ⟨r1, r2, rfl, hB, F1, F2, hA, hS, hz, l0, l2, hp⟩
  have al' : Z.vm.Alike B.U.vm := hZ.alike.trans X'.warmed.alike
  have hsz : E'.slots.size = D.slots.size := by
    obtain ⟨-, -, -, kB, w1, w2, w3⟩ := q1
    obtain ⟨kB', y1, y2⟩ := al'.2.2 _ _ e3
    rw [q2.2.1] at w1
    cases w1.symm.trans y1
    rw [w3, e5 i3, y2]
  refine ⟨v, B, X', ⟨_, ⟨hv, ?_, ⟨by omega, fun y cy hy hn' => q10 y cy (by simpa using hn') hy, fun y cy hy => ?_⟩, q11, ⟨E', _, q1.1, by rw [q2.2.1]; exact e2, by rw [q2.2.1]; exact e3, by rw [q2.1]; exact obV, fun _ => by rw [hsz]; exact e5 i3⟩,
    ⟨E', cfV, kV, iV, fV, q1.1, gV, stV, by rw [q2.1]; exact knV, by rw [q2.1]; exact obV, by rw [q2.2.1]; exact asV, q3⟩, ⟨E', cfC, kC, iC, fC, q1.1, gC, stC, by rw [q2.1]; exact knV, by rw [q2.1]; exact obV, by rw [q2.2.1]; exact asC, q4⟩,
    ⟨V', ⟨q5.1, State.isArrayOf_alike al'.symm q5.2.1, q5.2.2.1⟩, q6, by rw [← al'.findClass]; exact q7, q8, fun j hj => by have := q9 j hj; rwa [Nat.zero_add] at this⟩, fun O n d w F n1 n2 => ?_⟩, hl, hc, hs⟩, st⟩
  · intro y hy
    simp only [List.mem_cons, List.not_mem_nil, or_false] at hy
    rcases hy with rfl | rfl <;> rfl
  · by_cases q : y = x
    · subst q
      cases hD.symm.trans hy
      exact ⟨E', q1.1, q2.2.1, q2.1, hsz⟩
    · exact ⟨cy, q10 y cy q hy, rfl, rfl, rfl⟩
  · obtain ⟨D3, cf, k, i, f, g1, g2, g3, g4, g5, g6, g7⟩ := F
    cases hD.symm.trans g1
    simp only [RoadKit.slotOf, g2, gV, gC, Option.map_some, Option.getD_some] at n1 n2
    exact ⟨E', cf, k, i, f, q1.1, g2, g3, by rw [q2.1]; exact g4, by rw [q2.1]; exact g5, by rw [q2.2.1]; exact g6, by rw [q2.2.2 f.slot (by simp [n1, n2])]; exact g7⟩
end StrChars.Road
namespace StrChars.Road
open Jvm Sem ClassFile Op Lib Jvm.Stand Jvm.Free Jvm.Free.XT
/-- WHAT COMES BACK, the byte[] as a list of values -/
def QA (Z : State) (x : Addr) (zn : Int32) (cs : List Int32) (h : Heap) (v : Option Value) (h' : Heap) (L : List Loc) : Prop := v = none ∧ (∀ y ∈ L, y.base = x) ∧ RoadKit.Keep h h' [x] ∧ h'.size = h.size + 1 ∧ RoadKit.Exa Z h' x ST ∧ RoadKit.Fld Z h' x ST "value" "[B" (.ref h.size) ∧ RoadKit.Fld Z h' x ST "coder" "B" (.int 0) ∧
  (∃ kb, Z.vm.findClass "[B" = some kb ∧ RoadKit.Arv Z h' h.size kb .byte zn (cs.map fun c => .int (lo8 c)) (.int 0)) ∧
  ∀ (O n d : String) (w : Value), RoadKit.Fld Z h x O n d w → RoadKit.slotOf Z O n d ≠ RoadKit.slotOf Z ST "value" "[B" → RoadKit.slotOf Z O n d ≠ RoadKit.slotOf Z ST "coder" "B" → RoadKit.Fld Z h' x O n d w
/-- **new String(chars) AT A CALL, THE ARRAYS AS LISTS**: the char[] at b holds cs, not empty, no char above 255 -/
theorem backArv {p : Program} {l : Launch} {e : Env} {R : Room} {s : State} {args : Array Value} {below : List Frame} {len W : Nat} {Z : State} {a0 : Array Value} {h : Heap} (hZ : Z.Warmed39 s.vm) (hw : ∀ d ∈ words, d.before a0 Z = true) {kI : Nat} (wi : (Jvm.Cond.instantiable ST kI).before a0 Z = true)
    {x b : Addr} {k : ClassId} {zn z : Int32} {cs : List Int32} {dv v0 c0 : Value} (E : RoadKit.Exa Z h x ST) (V : RoadKit.Fld Z h x ST "value" "[B" v0) (C : RoadKit.Fld Z h x ST "coder" "B" c0) (K : RoadKit.Arv Z h b k .char zn (cs.map Value.int) dv) (S : RoadKit.Sta Z h ST "COMPACT_STRINGS" "Z" (.int z)) (hz : ¬ z = 0)
    (hlen : zn.toNatClampNeg = cs.length) (h0 : 0 < cs.length) (hbig : cs.length ≤ 536870912) (hall : ∀ c ∈ cs, ¬ 255 < c) (hfr : 4 ≤ R.frames) (hlo : W + 65 ≤ R.locals) :
    Back l R p e below s args New1.yN len W (fun P a => a = #[.ref x, .ref b] ∧ P.U.heap = h ∧ P.cells + 1 ≤ R.cells ∧ P.slots + cs.length ≤ R.slots)
      (fun P _ v B => ∃ L, QA Z x zn cs h v B.U.heap L ∧ B.locs = P.locs ++ L ∧ B.cells = P.cells + 1 ∧ B.slots = P.slots + cs.length) := by
  obtain ⟨A, K1, K2, K3, K4, K5, K6⟩ := K
  have e : A.slots.size = cs.length := K3.trans hlen
  have hat : ∀ (i : Nat) (hi : i < cs.length), A.slots[i]? = some (.int cs[i]) := fun i hi => by rw [K5 i (by omega)]; simp [List.getD_eq_getElem?_getD, hi]
  have hcv : ∀ (i : Nat) (hi : i < cs.length), cv A i = cs[i] := fun i hi => by unfold cv; rw [hat i hi]
  have hty : Typed .char A := fun i v hv => by
    have hi : i < A.slots.size := (Array.getElem?_eq_some_iff.mp hv).1
    have q := K5 i hi
    rw [hv] at q
    rw [Option.some.inj q]
    exact K6 i hi
  refine Back.mono (back hZ hw wi E V C K1 hty S hz (by omega) (by omega) (fun i hi => by rw [hcv i (by omega)]; exact hall _ (List.getElem_mem _)) hfr hlo) (fun P a hp => ⟨hp.1, hp.2.1, hp.2.2.1, by rw [e]; exact hp.2.2.2⟩) (fun P a v B hp hq => ?_)
  obtain ⟨L, ⟨q1, q2, q3, q4, q5, q6, q7, ⟨V', v1, v2, v3, v4, v5⟩, q9⟩, hl, hc, hs⟩ := hq
  refine ⟨L, ⟨q1, q2, q3, q4, q5, q6, q7, ⟨V'.cls, v3, V', v1, rfl, by rw [v4, e, hlen], K4, fun i hi => ?_, fun i hi => ?_⟩, q9⟩, hl, hc, by rw [hs, e]⟩
  · have hi' : i < cs.length := by omega
    rw [v5 i (by omega), hcv i hi']; simp [List.getD_eq_getElem?_getD, hi']
  · have hi' : i < cs.length := by omega
    simp only [List.getD_eq_getElem?_getD, List.getElem?_map, List.getElem?_eq_getElem hi', Option.map_some, Option.getD_some]
    exact fits_lo8 _
end StrChars.Road
namespace StrChars.Road
open Jvm Sem ClassFile Op Lib Jvm.Stand Jvm.Free Jvm.Free.XT
/-- WHAT COMES BACK, in the writer's own shape -/
def QV (Z : State) (x : Addr) (N : Int32) (bs : List Int32) (h : Heap) (n0 : Nat) (v : Option Value) (h' : Heap) (L : List Loc) : Prop := v = none ∧ RoadKit.Fr n0 L ∧ RoadKit.Keep h h' [x] ∧ RoadKit.Exa Z h' x ST ∧ RoadKit.Fld Z h' x ST "coder" "B" (.int 0) ∧
  ∃ (t : Addr) (kb : ClassId), n0 ≤ t ∧ h.size ≤ t ∧ ¬ t = x ∧ RoadKit.Fld Z h' x ST "value" "[B" (.ref t) ∧ RoadKit.Arv Z h' t kb .byte N (bs.map Value.int) (.int 0)
/-- **new String(chars) AT A CALL, FOR THE WRITER**: a char[] of n known ints, each 0 to 255 -/
theorem backV {p : Program} {l : Launch} {e : Env} {R : Room} {s : State} {args : Array Value} {below : List Frame} {len W : Nat} {Z : State} {a0 : Array Value} {h : Heap} (hZ : Z.Warmed39 s.vm) (hw : ∀ d ∈ words, d.before a0 Z = true) {kI : Nat} (wi : (Jvm.Cond.instantiable ST kI).before a0 Z = true)
    {x b : Addr} {kC : ClassId} {cs bs : List Int32} {d v0 c0 : Value} {z N : Int32} {n n0 : Nat} (hx0 : n0 ≤ x) (hh0 : n0 ≤ h.size) (E : RoadKit.Exa Z h x ST) (V : RoadKit.Fld Z h x ST "value" "[B" v0) (C : RoadKit.Fld Z h x ST "coder" "B" c0) (K : RoadKit.Arv Z h b kC .char N (cs.map Value.int) d) (S : RoadKit.Sta Z h ST "COMPACT_STRINGS" "Z" (.int z)) (hz : ¬ z = 0)
    (hn : cs.length = n) (hN : N = Int32.ofNat n) (l0 : 0 < n) (l2 : n ≤ 4000) (hp : ∀ c ∈ cs, ¬ c < 0 ∧ ¬ (255 : Int32) < c) (hb : bs = cs.map (fun c => c.toInt8.toInt32)) (hfr : 4 ≤ R.frames) (hlo : W + 65 ≤ R.locals) :
    Back l R p e below s args (⟨"java/lang/String", "<init>", "([C)V"⟩ : MethodName) len W (fun P a => a = #[.ref x, .ref b] ∧ P.U.heap = h ∧ P.cells + 1 ≤ R.cells ∧ P.slots + n ≤ R.slots)
      (fun P _ v B => ∃ L, QV Z x N bs h n0 v B.U.heap L ∧ B.locs = P.locs ++ L ∧ B.cells = P.cells + 1 ∧ B.slots = P.slots + n) := by
  subst hn hN hb
  refine Back.mono (backArv hZ hw wi E V C K S hz (n32 (by omega)) l0 (by omega) (fun c hc => (hp c hc).2) hfr hlo) (fun P a hp => hp) (fun P a v B hp hq => ?_)
  obtain ⟨L, ⟨q1, q2, q3, q4, q5, q6, q7, ⟨kb, v1, v2⟩, q9⟩, hl, hc, hs⟩ := hq
  exact ⟨L, ⟨q1, fun y hy => by rw [q2 y hy]; exact hx0, q3, q5, q7, h.size, kb, hh0, Nat.le_refl _, Nat.ne_of_gt E.lt, q6, by rw [List.map_map]; exact v2⟩, hl, hc, hs⟩
end StrChars.Road
namespace StrChars
open Jvm Sem ClassFile Op Lib Jvm.Stand Jvm.Free.XT Jvm.Free.ALB Jvm.Free.JM Jvm.Free
open Jvm.Lib.Cold (StaticIs)
def hi8 (x : Int32) : Int32 := lo8 (x >>> ((8 : Int32) &&& 31))
/-- what StringUTF16.getChar makes of two bytes -/
def pairCh (u v : Int32) : Int32 := (((u &&& 255) <<< ((0 : Int32) &&& 31)) ||| ((v &&& 255) <<< ((8 : Int32) &&& 31))).toUInt32.toUInt16.toUInt32.toInt32
theorem lo8_and (x : Int32) : (lo8 x &&& 255).toBitVec.toNat = x.toBitVec.toNat % 256 := by
  have h : (lo8 x).toBitVec = (x.toBitVec.signExtend 8).signExtend 32 := by rw [lo8, Int8.toBitVec_toInt32, Int32.toBitVec_toInt8]
  rw [Int32.toBitVec_and, BitVec.toNat_and, h]
  have e : ((x.toBitVec.signExtend 8).signExtend 32).toNat % 256 = x.toBitVec.toNat % 256 := by
    rw [BitVec.toNat_signExtend]
    have hlt := x.toBitVec.isLt
    simp only [BitVec.toNat_setWidth, BitVec.toNat_signExtend]
    split <;> split <;> omega
  rw [← e]
  exact Nat.and_two_pow_sub_one_eq_mod _ 8
theorem pair_says {c : Int32} (h0 : ¬ c < 0) (h1 : ¬ 65535 < c) : pairCh (lo8 c) (hi8 c) = c := by
  rw [Int32.lt_iff_toInt_lt] at h0 h1
  have e0 : (0 : Int32).toInt = 0 := rfl
  have e1 : (65535 : Int32).toInt = 65535 := rfl
  have hc : c.toInt = c.toBitVec.toNat := by
    have := c.toBitVec.isLt
    have e : c.toInt = c.toBitVec.toInt := rfl
    rw [e] at h0 h1
    rw [e]
    rw [BitVec.toInt_eq_toNat_cond] at h0 h1 ⊢
    split at h0 <;> split <;> omega
  have hn : c.toBitVec.toNat < 65536 := by omega
  have a1 := lo8_and c
  have a2 : (hi8 c &&& 255).toBitVec.toNat = c.toBitVec.toNat / 256 := by
    rw [hi8, lo8_and]
    have e : ((8 : Int32) &&& 31) = 8 := by decide
    rw [e, Int32.toBitVec_shiftRight]
    have e2 : ((8 : Int32).toBitVec.smod 32) = 8#32 := by decide
    rw [e2, BitVec.sshiftRight_eq', BitVec.toNat_sshiftRight_of_msb_false (by rw [BitVec.msb_eq_false_iff_two_mul_lt]; omega)]
    show c.toBitVec.toNat >>> 8 % 256 = _
    rw [Nat.shiftRight_eq_div_pow]
    omega
  unfold pairCh
  apply Int32.toBitVec_inj.mp
  apply BitVec.eq_of_toNat_eq
  have f0 : ((0 : Int32) &&& 31) = 0 := by decide
  have f8 : ((8 : Int32) &&& 31) = 8 := by decide
  rw [f0, f8]
  have g : (((lo8 c &&& 255) <<< (0 : Int32)) ||| ((hi8 c &&& 255) <<< (8 : Int32))).toBitVec.toNat = c.toBitVec.toNat := by
    rw [Int32.toBitVec_or, Int32.toBitVec_shiftLeft, Int32.toBitVec_shiftLeft]
    have s0 : ((0 : Int32).toBitVec.smod 32) = 0#32 := by decide
    have s8 : ((8 : Int32).toBitVec.smod 32) = 8#32 := by decide
    rw [s0, s8, BitVec.toNat_or]
    simp only [BitVec.shiftLeft_eq', BitVec.toNat_shiftLeft, a1, a2]
    show (c.toBitVec.toNat % 256) <<< 0 % 2 ^ 32 ||| (c.toBitVec.toNat / 256) <<< 8 % 2 ^ 32 = _
    rw [Nat.shiftLeft_zero, Nat.mod_eq_of_lt (show c.toBitVec.toNat % 256 < 2 ^ 32 by omega), Nat.mod_eq_of_lt (show (c.toBitVec.toNat / 256) <<< 8 < 2 ^ 32 by rw [Nat.shiftLeft_eq]; omega), Nat.or_comm, ← Nat.shiftLeft_add_eq_or_of_lt (by omega), Nat.shiftLeft_eq]
    omega
  show BitVec.toNat (((((lo8 c &&& 255) <<< (0 : Int32)) ||| ((hi8 c &&& 255) <<< (8 : Int32))).toBitVec.setWidth 16).setWidth 32) = _
  rw [BitVec.toNat_setWidth, BitVec.toNat_setWidth, g]
  omega
end StrChars
namespace StrChars
open Jvm Sem ClassFile Op Lib Jvm.Stand Jvm.Free.XT Jvm.Free.ALB Jvm.Free.JM Jvm.Free
open Jvm.Lib.Cold (StaticIs)
/-- the array's cell V codes the n chars f 0 .. f (n - 1) by the coder cd, as the JDK does: coder 1 just where some char is above 255 -/
def Cod (cd : Int32) (n : Nat) (f : Nat → Int32) (V : Cell) : Prop := (cd = 0 ∧ V.slots.size = n ∧ ∀ j, j < n → V.slots[j]? = some (.int (lo8 (f j))) ∧ ¬ 255 < f j) ∨ (cd = 1 ∧ V.slots.size = 2 * n ∧ (∀ j, j < n → V.slots[2 * j]? = some (.int (lo8 (f j))) ∧ V.slots[2 * j + 1]? = some (.int (hi8 (f j)))) ∧ ∃ j, j < n ∧ 255 < f j)
/-- **x is a String of the n chars f 0 .. f (n - 1)**, Latin-1 or UTF-16; its array at t has the cell V -/
def Txt (x t : Addr) (V : Cell) (cd : Int32) (n : Nat) (f : Nat → Int32) (U : State) : Prop := Exact "java/lang/String" x U ∧ Has x "java/lang/String" "value" "[B" (.ref t) U ∧ Has x "java/lang/String" "coder" "B" (.int cd) U ∧ XT.Arr .byte t V U ∧ Cod cd n f V ∧ ∀ j, j < n → ¬ f j < 0 ∧ ¬ 65535 < f j
theorem Txt.mv {x t : Addr} {V : Cell} {cd : Int32} {n : Nat} {f : Nat → Int32} {U U' : State} (h : Txt x t V cd n f U) (hal : U.vm.Alike U'.vm) (hh : U'.heap = U.heap) : Txt x t V cd n f U' := ⟨h.1.mv hal hh, h.2.1.mv hal hh, h.2.2.1.mv hal hh, h.2.2.2.1.mv hal hh, h.2.2.2.2⟩
end StrChars
namespace StrChars.Road
open Jvm Sem ClassFile Op Lib Jvm.Stand Jvm.Free Jvm.Free.XT
open Jvm.Lib.Cold (StaticIs)
theorem consq {a : Array Value} {s : State} {c : Jvm.Cond} {L : List Jvm.Cond} (h0 : c.before a s = true) (h : ∀ w ∈ L, w.before a s = true) : ∀ w ∈ c :: L, w.before a s = true := fun w hw => (List.mem_cons.mp hw).elim (fun e => e ▸ h0) (h w)
/-- the bytes of the chars cs, low before high -/
def wideBytes : List Int32 → List Value
  | [] => []
  | c :: cs => .int (lo8 c) :: .int (hi8 c) :: wideBytes cs
theorem wide_lo (d : Value) : ∀ (cs : List Int32) (j : Nat), j < cs.length → (wideBytes cs).getD (2 * j) d = .int (lo8 (cs.getD j 0))
  | [], j, h => absurd h (Nat.not_lt_zero j)
  | c :: cs, 0, _ => rfl
  | c :: cs, j + 1, h => by
    have q := wide_lo d cs j (by simpa using h)
    rw [show 2 * (j + 1) = 2 * j + 1 + 1 from by omega]
    simpa [wideBytes] using q
theorem wide_hi (d : Value) : ∀ (cs : List Int32) (j : Nat), j < cs.length → (wideBytes cs).getD (2 * j + 1) d = .int (hi8 (cs.getD j 0))
  | [], j, h => absurd h (Nat.not_lt_zero j)
  | c :: cs, 0, _ => rfl
  | c :: cs, j + 1, h => by
    have q := wide_hi d cs j (by simpa using h)
    rw [show 2 * (j + 1) + 1 = 2 * j + 1 + 1 + 1 from by omega]
    simpa [wideBytes] using q
theorem low_at (d : Value) (cs : List Int32) (j : Nat) (h : j < cs.length) : (cs.map fun c => Value.int (lo8 c)).getD j d = .int (lo8 (cs.getD j 0)) := by
  simp [List.getD_eq_getElem?_getD, h]
/-- an array of N2 bytes vs codes the chars cs by the coder cd -/
def CodA (cs : List Int32) (cd N2 : Int32) (vs : List Value) : Prop := (cd = 0 ∧ N2 = Int32.ofNat cs.length ∧ vs = (cs.map fun c => Value.int (lo8 c)) ∧ ∀ c ∈ cs, ¬ 255 < c) ∨ (cd = 1 ∧ N2 = Int32.ofNat (2 * cs.length) ∧ vs = wideBytes cs ∧ ∃ c ∈ cs, 255 < c)
theorem CodA.cod {cs : List Int32} {cd N2 : Int32} {vs : List Value} {V : Cell} (h : CodA cs cd N2 vs) (hn : 2 * cs.length < 2 ^ 31) (hs : V.slots.size = N2.toNatClampNeg) (hv : RoadKit.Has V vs (.int 0)) : Cod cd cs.length (fun j => cs.getD j 0) V := by
  rcases h with ⟨rfl, rfl, rfl, h⟩ | ⟨rfl, rfl, rfl, c, hc, hw⟩
  · rw [n32 (by omega)] at hs
    exact Or.inl ⟨rfl, hs, fun j hj => ⟨by rw [hv j (by omega), low_at _ _ _ hj], by
      have e : cs.getD j 0 = cs[j] := by simp [List.getD_eq_getElem?_getD, hj]
      show ¬ 255 < cs.getD j 0
      rw [e]; exact h _ (List.getElem_mem _)⟩⟩
  · rw [n32 (by omega)] at hs
    obtain ⟨j, hj, rfl⟩ := List.getElem_of_mem hc
    exact Or.inr ⟨rfl, hs, fun j hj => ⟨by rw [hv _ (by omega), wide_lo _ _ _ hj], by rw [hv _ (by omega), wide_hi _ _ _ hj]⟩, j, hj, by
      have e : cs.getD j 0 = cs[j] := by simp [List.getD_eq_getElem?_getD, hj]
      show 255 < cs.getD j 0
      rw [e]; exact hw⟩
/-- an object of exactly java/lang/String, its two fields found: as the laws ask it -/
theorem strObj {Z U : State} {a0 : Array Value} {kI : Nat} (wi : (Jvm.Cond.instantiable ST kI).before a0 Z = true) (al : Z.vm.Alike U.vm) {x : Addr} {v0 c0 : Value} (E : RoadKit.Exa Z U.heap x ST) (V : RoadKit.Fld Z U.heap x ST "value" "[B" v0) (C : RoadKit.Fld Z U.heap x ST "coder" "B" c0) :
    ∃ (D : Cell) (fV fC : Field), Blank ST x D U ∧ Found ST "value" "[B" fV U ∧ Found ST "coder" "B" fC U ∧ D.slots[fV.slot]? = some v0 ∧ D.slots[fC.slot]? = some c0 ∧ RoadKit.slotOf Z ST "value" "[B" = fV.slot ∧ RoadKit.slotOf Z ST "coder" "B" = fC.slot := by
  obtain ⟨D, cfV, kV, iV, fV, hD, gV, stV, knV, obV, asV, slV⟩ := V
  obtain ⟨D', cfC, kC, iC, fC, hD', gC, stC, -, -, asC, slC⟩ := C
  cases hD.symm.trans hD'
  obtain ⟨D2, kD, e1, e2, e3, e4, e5⟩ := E
  cases hD.symm.trans e1
  obtain ⟨c2, k2, i1, i2, i3, -⟩ := Cond.instantiable_spec wi
  cases e2.symm.trans i1
  cases e3.symm.trans i2
  obtain ⟨kU, u1, u2⟩ := al.2.2 _ _ e3
  exact ⟨D, fV, fC, ⟨hD, ⟨knV, fun q hq => by rw [hq] at obV; cases obV⟩, by rw [al.findClass]; exact e2, kU, u1, by rw [u2]; exact i3, by rw [u2]; exact e5 i3⟩, ⟨SBG.found_only al ⟨cfV, kV, iV, gV⟩, stV⟩, ⟨SBG.found_only al ⟨cfC, kC, iC, gC⟩, stC⟩, slV, slC, by simp [RoadKit.slotOf, gV], by simp [RoadKit.slotOf, gC]⟩
theorem sta_is {Z U : State} (al : Z.vm.Alike U.vm) {C n d : String} {v : Value} (S : RoadKit.Sta Z U.heap C n d v) : StaticIs U C n d v := by
  obtain ⟨cfS, iS, kS, fS, st, cS, t1, t2, t3, t4, t5, t6, t7⟩ := S
  exact StaticIs.there (s := { Z with heap := U.heap }) ⟨cfS, iS, kS, fS, st, cS, t1, t2, t3, t4, t5, (fun q => by rw [q] at t6; cases t6), t7⟩ al rfl
end StrChars.Road
namespace StrChars
open Jvm Sem ClassFile Op Lib Jvm.Stand Jvm.Free.XT Jvm.Free.ALB Jvm.Free.JM Jvm.Free
open Jvm.Lib.Cold (StaticIs)
/-- what place i of a byte[]'s cell holds -/
def yv (A : Cell) (i : Nat) : Int32 := match A.slots[i]? with | some (.int x) => x | _ => 0
theorem yv_get {a : Addr} {A : Cell} {U : State} (h : XT.Arr .byte a A U) (ht : Typed .byte A) {i : Nat} (hi : i < A.slots.size) : A.slots[i]? = some (.int (yv A i)) := by
  have e := Array.getElem?_eq_getElem hi
  have f := ht i _ e
  unfold yv; rw [e]
  generalize A.slots[i] = v at f
  cases v <;> simp [fits] at f ⊢
/-- the two arrays are equal, place for place -/
def EqC (A B : Cell) : Prop := A.slots.size = B.slots.size ∧ ∀ i, i < A.slots.size → yv A i = yv B i
/-- a boolean that says whether p -/
def Says01 (q : Prop) (r : Option Value) (s u : State) : Prop := ∃ v : Int32, r = some (.int v) ∧ u.heap = s.heap ∧ ((v = 1 ∧ q) ∨ (v = 0 ∧ ¬ q))
theorem Says01.mv {q : Prop} : ∀ r (U U' V V' : State), U'.heap = U.heap → V.vm.Alike V'.vm → V'.heap = V.heap → Says01 q r U V → Says01 q r U' V' :=
  fun r U U' V V' h1 _ h2 ⟨v, a, b, c⟩ => ⟨v, a, by rw [h1, h2]; exact b, c⟩
namespace LEq
def yN : MethodName := ⟨"java/lang/StringLatin1", "equals", "([B[B)Z"⟩
abbrev yB : ByteArray := jdk_43_method_13_code
theorem d0 : decode yB 0 = .ok (.aload_n 0, 1) := by decide +kernel
theorem d1 : decode yB 1 = .ok (.arraylength, 1) := by decide +kernel
theorem d2 : decode yB 2 = .ok (.aload_n 1, 1) := by decide +kernel
theorem d3 : decode yB 3 = .ok (.arraylength, 1) := by decide +kernel
theorem d4 : decode yB 4 = .ok (.if_icmp (.ne) 30, 3) := by decide +kernel
theorem d7 : decode yB 7 = .ok (.iconst 0, 1) := by decide +kernel
theorem d8 : decode yB 8 = .ok (.istore_n 2, 1) := by decide +kernel
theorem d9 : decode yB 9 = .ok (.iload_n 2, 1) := by decide +kernel
theorem d10 : decode yB 10 = .ok (.aload_n 0, 1) := by decide +kernel
theorem d11 : decode yB 11 = .ok (.arraylength, 1) := by decide +kernel
theorem d12 : decode yB 12 = .ok (.if_icmp (.ge) 20, 3) := by decide +kernel
theorem d15 : decode yB 15 = .ok (.aload_n 0, 1) := by decide +kernel
theorem d16 : decode yB 16 = .ok (.iload_n 2, 1) := by decide +kernel
theorem d17 : decode yB 17 = .ok (.baload, 1) := by decide +kernel
theorem d18 : decode yB 18 = .ok (.aload_n 1, 1) := by decide +kernel
theorem d19 : decode yB 19 = .ok (.iload_n 2, 1) := by decide +kernel
theorem d20 : decode yB 20 = .ok (.baload, 1) := by decide +kernel
theorem d21 : decode yB 21 = .ok (.if_icmp (.eq) 5, 3) := by decide +kernel
theorem d24 : decode yB 24 = .ok (.iconst 0, 1) := by decide +kernel
theorem d25 : decode yB 25 = .ok (.ireturn, 1) := by decide +kernel
theorem d26 : decode yB 26 = .ok (.iinc 2 1, 3) := by decide +kernel
theorem d29 : decode yB 29 = .ok (.goto (-20), 3) := by decide +kernel
theorem d32 : decode yB 32 = .ok (.iconst 1, 1) := by decide +kernel
theorem d33 : decode yB 33 = .ok (.ireturn, 1) := by decide +kernel
theorem d34 : decode yB 34 = .ok (.iconst 0, 1) := by decide +kernel
theorem d35 : decode yB 35 = .ok (.ireturn, 1) := by decide +kernel
def site : List Cond := []
def tab : Cond := tabOf yN yB 3 (some .boolean) site
def P (a : Addr) (A : Cell) (b : Addr) (B : Cell) (args : Array Value) (s : State) : Prop := args = #[.ref a, .ref b] ∧ XT.Arr .byte a A s ∧ Typed .byte A ∧ XT.Arr .byte b B s ∧ Typed .byte B
/-- whether two byte[] are equal, place for place -/
theorem law (l : Launch) (a : Addr) (A : Cell) (b : Addr) (B : Cell) : Law l yN 2 2 0 0 yB 3 (some .boolean) site (P a A b B) (Says01 (EqC A B)) [] 0 0 := by
  refine Law.of_walk (plainFor_of_name (by decide +kernel)) (by decide +kernel) (by decide +kernel) (by decide) (fun _ _ h => by rw [h.1]; rfl) (fun _ U U' hal hh h => ⟨h.1, h.2.1.mv hal hh, h.2.2.1, h.2.2.2.1.mv hal hh, h.2.2.2.2⟩) (fun r U U' V V' h1 hal h2 h => Says01.mv r U U' V V' h1 hal h2 h) ?_
  intro p e s m args below meth c s₁ X0 hexec hbytes hml hret hlk hnm hown hh0 W hP
  obtain ⟨rfl, hA, tA, hB, tB⟩ := hP
  have a31 := hA.2.2.2
  have b31 := hB.2.2.2
  have hA0 := hA.mv X0.warmed.alike hh0
  have hB0 := hB.mv X0.warmed.alike hh0
  have c1 : Steps p.tables e below (s₁.setTop (entryFrame m #[.ref a, .ref b] 3)) (s₁.setTop (mkF m 0 #[.val (.ref a), .val (.ref b), .unset] [])) := entry rfl
  have c2 : Steps p.tables e below (s₁.setTop (entryFrame m #[.ref a, .ref b] 3)) (s₁.setTop (mkF m 4 #[.val (.ref a), .val (.ref b), .unset] [.int (Int32.ofNat B.slots.size), .int (Int32.ofNat A.slots.size)])) := c1.trans (by
    refine XS.aloadN X0.here hexec rfl (hb hbytes d0) rfl rfl ?_
    refine X0.alen hexec hA0 rfl rfl (hb hbytes d1) ?_
    refine XS.aloadN X0.here hexec rfl (hb hbytes d2) rfl rfl ?_
    refine X0.alen hexec hB0 rfl rfl (hb hbytes d3) ?_
    exact Steps.refl _)
  by_cases hs : A.slots.size = B.slots.size
  · have c3 : Steps p.tables e below (s₁.setTop (entryFrame m #[.ref a, .ref b] 3)) (s₁.setTop (mkF m 9 #[.val (.ref a), .val (.ref b), .val (.int 0)] [])) := c2.trans (by
      refine XS.icmpNo X0.here hexec rfl (hb hbytes d4) rfl (ii_ne_f (by rw [hs])) ?_
      refine iconstV X0.here hexec rfl 0 (hb hbytes d7) (by decide) ?_
      refine XS.istoreN X0.here hexec rfl (hb hbytes d8) rfl rfl ?_
      exact Steps.refl _)
    have loop : ∀ (r i : Nat), i + r = A.slots.size → (∀ j, j < i → yv A j = yv B j) → Steps p.tables e below (s₁.setTop (entryFrame m #[.ref a, .ref b] 3)) (s₁.setTop (mkF m 9 #[.val (.ref a), .val (.ref b), .val (.int (Int32.ofNat i))] [])) → ∃ (pc : Nat) (Ls : Array Slot) (v : Int32), (pc = 25 ∨ pc = 33) ∧ ((v = 1 ∧ EqC A B) ∨ (v = 0 ∧ ¬ EqC A B)) ∧ Steps p.tables e below (s₁.setTop (entryFrame m #[.ref a, .ref b] 3)) (s₁.setTop (mkF m pc Ls [.int v])) := by
      intro r
      induction r with
      | zero =>
        intro i hi he cl
        exact ⟨33, _, 1, Or.inr rfl, Or.inl ⟨rfl, hs, fun j hj => he j (by omega)⟩, cl.trans (by
          refine XS.iloadN X0.here hexec rfl (hb hbytes d9) rfl ?_
          refine XS.aloadN X0.here hexec rfl (hb hbytes d10) rfl rfl ?_
          refine X0.alen hexec hA0 rfl rfl (hb hbytes d11) ?_
          refine XS.icmpYes X0.here hexec rfl (pc0 := 12) rfl (hb hbytes d12) rfl (ii_ge_t (nlt32 (by omega) (by omega))) (by decide) rfl ?_
          refine iconstV X0.here hexec rfl 1 (hb hbytes d32) (by decide) ?_
          exact Steps.refl _)⟩
      | succ r ih =>
        intro i hi he cl
        have c4 : Steps p.tables e below (s₁.setTop (entryFrame m #[.ref a, .ref b] 3)) (s₁.setTop (mkF m 21 #[.val (.ref a), .val (.ref b), .val (.int (Int32.ofNat i))] [.int (yv B i), .int (yv A i)])) := cl.trans (by
          refine XS.iloadN X0.here hexec rfl (hb hbytes d9) rfl ?_
          refine XS.aloadN X0.here hexec rfl (hb hbytes d10) rfl rfl ?_
          refine X0.alen hexec hA0 rfl rfl (hb hbytes d11) ?_
          refine XS.icmpNo X0.here hexec rfl (hb hbytes d12) rfl (ii_ge_f (lt32 (by omega) (by omega))) ?_
          refine XS.aloadN X0.here hexec rfl (hb hbytes d15) rfl rfl ?_
          refine XS.iloadN X0.here hexec rfl (hb hbytes d16) rfl ?_
          refine X0.aget hexec hA0 rfl (yv_get hA tA (i := i) (by omega)) rfl rfl (hb hbytes d17) ?_
          refine XS.aloadN X0.here hexec rfl (hb hbytes d18) rfl rfl ?_
          refine XS.iloadN X0.here hexec rfl (hb hbytes d19) rfl ?_
          refine X0.aget hexec hB0 rfl (yv_get hB tB (i := i) (by omega)) rfl rfl (hb hbytes d20) ?_
          exact Steps.refl _)
        by_cases hv : yv A i = yv B i
        · have c5 : Steps p.tables e below (s₁.setTop (entryFrame m #[.ref a, .ref b] 3)) (s₁.setTop (mkF m 9 #[.val (.ref a), .val (.ref b), .val (.int (Int32.ofNat i + 1))] [])) := c4.trans (by
            refine XS.icmpYes X0.here hexec rfl (pc0 := 21) rfl (hb hbytes d21) rfl (ii_eq_t hv) (by decide) rfl ?_
            refine iincV X0.here hexec rfl 1 (hb hbytes d26) (by decide) rfl rfl ?_
            refine XS.goto X0.here hexec rfl (pc0 := 29) rfl (hb hbytes d29) (by decide) rfl ?_
            exact Steps.refl _)
          rw [succ32] at c5
          exact ih (i + 1) (by omega) (fun j hj => by
            by_cases e : j = i
            · rw [e]; exact hv
            · exact he j (by omega)) c5
        · exact ⟨25, _, 0, Or.inl rfl, Or.inr ⟨rfl, fun q => hv (q.2 i (by omega))⟩, c4.trans (by
            refine XS.icmpNo X0.here hexec rfl (hb hbytes d21) rfl (ii_eq_f hv) ?_
            refine iconstV X0.here hexec rfl 0 (hb hbytes d24) (by decide) ?_
            exact Steps.refl _)⟩
    obtain ⟨pc, Ls, v, hpc, hv, cz⟩ := loop A.slots.size 0 (by omega) (fun j hj => absurd hj (Nat.not_lt_zero j)) c3
    have nv : narrow .boolean (.int v) = .int v := by rcases hv with ⟨rfl, -⟩ | ⟨rfl, -⟩ <;> rfl
    rcases hpc with rfl | rfl
    · exact ⟨s₁, some (.int v), _, _, _, X0, rfl, rfl, rfl, (fun h => by cases h), ⟨v, rfl, hh0, hv⟩, fun fs hl => cz.trans (X0.ireturnOut hexec hret nv (Or.inr (Or.inl rfl)) (hb hbytes d25) hl)⟩
    · exact ⟨s₁, some (.int v), _, _, _, X0, rfl, rfl, rfl, (fun h => by cases h), ⟨v, rfl, hh0, hv⟩, fun fs hl => cz.trans (X0.ireturnOut hexec hret nv (Or.inr (Or.inl rfl)) (hb hbytes d33) hl)⟩
  · have c3 : Steps p.tables e below (s₁.setTop (entryFrame m #[.ref a, .ref b] 3)) (s₁.setTop (mkF m 35 #[.val (.ref a), .val (.ref b), .unset] [.int 0])) := c2.trans (by
      refine XS.icmpYes X0.here hexec rfl (pc0 := 4) rfl (hb hbytes d4) rfl (ii_ne_t (ne32 a31 b31 hs)) (by decide) rfl ?_
      refine iconstV X0.here hexec rfl 0 (hb hbytes d34) (by decide) ?_
      exact Steps.refl _)
    exact ⟨s₁, some (.int 0), _, _, _, X0, rfl, rfl, rfl, (fun h => by cases h), ⟨0, rfl, hh0, Or.inr ⟨rfl, fun q => hs q.1⟩⟩, fun fs hl => c3.trans (X0.ireturnOut hexec hret rfl (Or.inr (Or.inl rfl)) (hb hbytes d35) hl)⟩
end LEq
theorem Cod.ty {cd : Int32} {n : Nat} {f : Nat → Int32} {V : Cell} (h : Cod cd n f V) : Typed .byte V := fun i v hv => by
  have hi : i < V.slots.size := (Array.getElem?_eq_some_iff.mp hv).1
  rcases h with ⟨-, k1, k2⟩ | ⟨-, k1, k2, -⟩
  · rw [(k2 i (by omega)).1] at hv; cases hv; exact fits_lo8 _
  · rcases Nat.mod_two_eq_zero_or_one i with e | e
    · obtain ⟨j, rfl⟩ : ∃ j, i = 2 * j := ⟨i / 2, by omega⟩
      rw [(k2 j (by omega)).1] at hv; cases hv; exact fits_lo8 _
    · obtain ⟨j, rfl⟩ : ∃ j, i = 2 * j + 1 := ⟨i / 2, by omega⟩
      rw [(k2 j (by omega)).2] at hv; cases hv; exact fits_lo8 _
/-- the same text -/
def SameT (n : Nat) (f : Nat → Int32) (k : Nat) (g : Nat → Int32) : Prop := n = k ∧ ∀ j, j < n → f j = g j
theorem lo8_inj {x y : Int32} (h0 : ¬ x < 0) (h1 : ¬ 255 < x) (k0 : ¬ y < 0) (k1 : ¬ 255 < y) (h : lo8 x = lo8 y) : x = y := by
  rw [← lo8_mask h0 h1, ← lo8_mask k0 k1, h]
/-- arrays coded by one coder are equal just where the texts are -/
theorem Cod.eqv {cd : Int32} {n k : Nat} {f g : Nat → Int32} {V V' : Cell} (h : Cod cd n f V) (h' : Cod cd k g V') (hf : ∀ j, j < n → ¬ f j < 0 ∧ ¬ 65535 < f j) (hg : ∀ j, j < k → ¬ g j < 0 ∧ ¬ 65535 < g j) : EqC V V' ↔ SameT n f k g := by
  have yvv : ∀ {W : Cell} {i : Nat} {x : Int32}, W.slots[i]? = some (.int x) → yv W i = x := fun q => by unfold yv; rw [q]
  rcases h with ⟨rfl, k1, k2⟩ | ⟨rfl, k1, k2, -⟩
  · rcases h' with ⟨-, m1, m2⟩ | ⟨e, -⟩
    · constructor
      · rintro ⟨e1, e2⟩
        refine ⟨by omega, fun j hj => ?_⟩
        have q := e2 j (by omega)
        rw [yvv (k2 j hj).1, yvv (m2 j (by omega)).1] at q
        exact lo8_inj (hf j hj).1 (k2 j hj).2 (hg j (by omega)).1 (m2 j (by omega)).2 q
      · rintro ⟨rfl, e2⟩
        refine ⟨by omega, fun j hj => ?_⟩
        rw [yvv (k2 j (by omega)).1, yvv (m2 j (by omega)).1, e2 j (by omega)]
    · exact absurd e (by decide)
  · rcases h' with ⟨e, -⟩ | ⟨-, m1, m2, -⟩
    · exact absurd e (by decide)
    · constructor
      · rintro ⟨e1, e2⟩
        refine ⟨by omega, fun j hj => ?_⟩
        have q1 := e2 (2 * j) (by omega)
        have q2 := e2 (2 * j + 1) (by omega)
        rw [yvv (k2 j hj).1, yvv (m2 j (by omega)).1] at q1
        rw [yvv (k2 j hj).2, yvv (m2 j (by omega)).2] at q2
        rw [← pair_says (hf j hj).1 (hf j hj).2, ← pair_says (hg j (by omega)).1 (hg j (by omega)).2, q1, q2]
      · rintro ⟨rfl, e2⟩
        refine ⟨by omega, fun i hi => ?_⟩
        rcases Nat.mod_two_eq_zero_or_one i with e | e
        · obtain ⟨j, rfl⟩ : ∃ j, i = 2 * j := ⟨i / 2, by omega⟩
          rw [yvv (k2 j (by omega)).1, yvv (m2 j (by omega)).1, e2 j (by omega)]
        · obtain ⟨j, rfl⟩ : ∃ j, i = 2 * j + 1 := ⟨i / 2, by omega⟩
          rw [yvv (k2 j (by omega)).2, yvv (m2 j (by omega)).2, e2 j (by omega)]
/-- two codings differ: so do the texts -/
theorem Cod.dif {cd cd' : Int32} {n k : Nat} {f g : Nat → Int32} {V V' : Cell} (h : Cod cd n f V) (h' : Cod cd' k g V') (hne : ¬ cd = cd') : ¬ SameT n f k g := by
  rintro ⟨rfl, e⟩
  rcases h with ⟨rfl, -, k2⟩ | ⟨rfl, -, -, j, hj, hw⟩
  · rcases h' with ⟨rfl, -⟩ | ⟨-, -, -, j, hj, hw⟩
    · exact hne rfl
    · exact (k2 j hj).2 (by rw [e j hj]; exact hw)
  · rcases h' with ⟨-, -, m2⟩ | ⟨rfl, -⟩
    · exact (m2 j hj).2 (by rw [← e j hj]; exact hw)
    · exact hne rfl
/-- an object of exactly C is an instance of C -/
theorem cinst {p : Program} {l : Launch} {e : Env} {R : Room} {s : State} {m : MethodId} {args : Array Value} {below : List Frame} {meth : Method} {c : Code} {T : State} {locs : List Loc} {cells slots : Nat} (X : Stand p l e R s m args below meth c T locs cells slots) (hexec : p.tables.exec = Jvm.exec) {own C : String} {index : Nat} (hown : s.vm.findClass own = some m.cls) (hlink : (Cond.classLink own index C).before args s = true) {a : Addr} (hE : Exact C a T)
    {g : JFrame} (hg : g.method = m) {rest : List Value} (hstack : g.stack = .ref a :: rest) (hdg : decode c.code g.pc = .ok (.instanceof index, 3)) :
    ∃ T', Stand p l e R s m args below meth c T' locs cells slots ∧ T'.heap = T.heap ∧ ∀ target, Steps p.tables e below (T'.setTop { g with pc := g.pc + 3, stack := .int 1 :: rest }) target → Steps p.tables e below (T.setTop g) target := by
  obtain ⟨cB, h1, D, h2, h3, h4⟩ := hE
  have h1' : s.vm.findClass C = some cB := by rw [← X.warmed.alike.findClass]; exact h1
  obtain ⟨vm', X', st⟩ := X.instanceofYes hexec hown hlink h2 h4 h1' (by rw [h3]; exact Jvm.Free.SB.assignable_self _ _) hg hstack hdg
  exact ⟨_, X', rfl, st⟩
theorem cself {p : Program} {l : Launch} {e : Env} {R : Room} {s : State} {m : MethodId} {args : Array Value} {below : List Frame} {meth : Method} {c : Code} {T : State} {locs : List Loc} {cells slots : Nat} (X : Stand p l e R s m args below meth c T locs cells slots) (hexec : p.tables.exec = Jvm.exec) {own C : String} {index : Nat} (hown : s.vm.findClass own = some m.cls) (hlink : (Cond.classLink own index C).before args s = true) {a : Addr} (hE : Exact C a T)
    {g : JFrame} (hg : g.method = m) {rest : List Value} (hstack : g.stack = .ref a :: rest) (hdg : decode c.code g.pc = .ok (.checkcast index, 3)) :
    ∃ T', Stand p l e R s m args below meth c T' locs cells slots ∧ T'.heap = T.heap ∧ ∀ target, Steps p.tables e below (T'.setTop { g with pc := g.pc + 3, stack := .ref a :: rest }) target → Steps p.tables e below (T.setTop g) target := by
  obtain ⟨cB, h1, D, h2, h3, h4⟩ := hE
  have h1' : s.vm.findClass C = some cB := by rw [← X.warmed.alike.findClass]; exact h1
  obtain ⟨vm', X', st⟩ := X.checkcastYes hexec hown hlink h2 h4 h1' (by rw [h3]; exact Jvm.Free.SB.assignable_self _ _) hg hstack hdg
  exact ⟨_, X', rfl, fun t h => st t (by rw [← hstack] at h; exact h)⟩
namespace SEq
def yN : MethodName := ⟨"java/lang/String", "equals", "(Ljava/lang/Object;)Z"⟩
abbrev yB : ByteArray := jdk_42_method_66_code
theorem d0 : decode yB 0 = .ok (.aload_n 0, 1) := by decide +kernel
theorem d1 : decode yB 1 = .ok (.aload_n 1, 1) := by decide +kernel
theorem d2 : decode yB 2 = .ok (.if_acmp (.ne) 5, 3) := by decide +kernel
theorem d5 : decode yB 5 = .ok (.iconst 1, 1) := by decide +kernel
theorem d6 : decode yB 6 = .ok (.ireturn, 1) := by decide +kernel
theorem d7 : decode yB 7 = .ok (.aload_n 1, 1) := by decide +kernel
theorem d8 : decode yB 8 = .ok (.instanceof 10, 3) := by decide +kernel
theorem d11 : decode yB 11 = .ok (.ifCond (.eq) 43, 3) := by decide +kernel
theorem d14 : decode yB 14 = .ok (.aload_n 1, 1) := by decide +kernel
theorem d15 : decode yB 15 = .ok (.checkcast 10, 3) := by decide +kernel
theorem d18 : decode yB 18 = .ok (.astore_n 2, 1) := by decide +kernel
theorem d19 : decode yB 19 = .ok (.getstatic 38, 3) := by decide +kernel
theorem d22 : decode yB 22 = .ok (.ifCond (.eq) 14, 3) := by decide +kernel
theorem d25 : decode yB 25 = .ok (.aload_n 0, 1) := by decide +kernel
theorem d26 : decode yB 26 = .ok (.getfield 15, 3) := by decide +kernel
theorem d29 : decode yB 29 = .ok (.aload_n 2, 1) := by decide +kernel
theorem d30 : decode yB 30 = .ok (.getfield 15, 3) := by decide +kernel
theorem d33 : decode yB 33 = .ok (.if_icmp (.ne) 21, 3) := by decide +kernel
theorem d36 : decode yB 36 = .ok (.aload_n 0, 1) := by decide +kernel
theorem d37 : decode yB 37 = .ok (.getfield 9, 3) := by decide +kernel
theorem d40 : decode yB 40 = .ok (.aload_n 2, 1) := by decide +kernel
theorem d41 : decode yB 41 = .ok (.getfield 9, 3) := by decide +kernel
theorem d44 : decode yB 44 = .ok (.invokestatic 541, 3) := by decide +kernel
theorem d47 : decode yB 47 = .ok (.ifCond (.eq) 7, 3) := by decide +kernel
theorem d50 : decode yB 50 = .ok (.iconst 1, 1) := by decide +kernel
theorem d51 : decode yB 51 = .ok (.goto 4, 3) := by decide +kernel
theorem d54 : decode yB 54 = .ok (.iconst 0, 1) := by decide +kernel
theorem d55 : decode yB 55 = .ok (.ireturn, 1) := by decide +kernel
def site : List Cond := [.classLink "java/lang/String" 10 "java/lang/String", .fieldLink "java/lang/String" 38 "java/lang/String" "COMPACT_STRINGS" "Z", .fieldLink "java/lang/String" 15 "java/lang/String" "coder" "B", .fieldLink "java/lang/String" 9 "java/lang/String" "value" "[B", LEq.tab] ++ staticW "java/lang/String" 541 LEq.yN
def tab : Cond := tabOf yN yB 3 (some .boolean) site
def P (x t : Addr) (V : Cell) (cd : Int32) (n : Nat) (f : Nat → Int32) (y t' : Addr) (V' : Cell) (cd' : Int32) (k : Nat) (g : Nat → Int32) (z : Int32) (args : Array Value) (s : State) : Prop := args = #[.ref x, .ref y] ∧ Txt x t V cd n f s ∧ Txt y t' V' cd' k g s ∧ StaticIs s "java/lang/String" "COMPACT_STRINGS" "Z" (.int z) ∧ ¬ z = 0
/-- equals(Object) of two Strings: whether the texts are the same -/
theorem law (l : Launch) (x t : Addr) (V : Cell) (cd : Int32) (n : Nat) (f : Nat → Int32) (y t' : Addr) (V' : Cell) (cd' : Int32) (k : Nat) (g : Nat → Int32) (z : Int32) : Law l yN 2 1 1 14 yB 3 (some .boolean) site (P x t V cd n f y t' V' cd' k g z) (Says01 (SameT n f k g)) [] 0 0 := by
  refine Law.of_walk (plainFor_of_name (by decide +kernel)) (by decide +kernel) (by decide +kernel) (by decide) (fun _ _ h => by rw [h.1]; rfl) (fun _ U U' hal hh h => ⟨h.1, h.2.1.mv hal hh, h.2.2.1.mv hal hh, h.2.2.2.1.there hal hh, h.2.2.2.2⟩) (fun r U U' V V' h1 hal h2 h => Says01.mv r U U' V V' h1 hal h2 h) ?_
  intro p e s m args below meth c s₁ X0 hexec hbytes hml hret hlk hnm hown hh0 W hP
  obtain ⟨rfl, hx, hy, s1, hz⟩ := hP
  have c1 : Steps p.tables e below (s₁.setTop (entryFrame m #[.ref x, .ref y] 3)) (s₁.setTop (mkF m 2 #[.val (.ref x), .val (.ref y), .unset] [.ref y, .ref x])) := Steps.trans (entry rfl) (by
    show Steps p.tables e below (s₁.setTop (mkF m 0 #[.val (.ref x), .val (.ref y), .unset] [])) _
    refine XS.aloadN X0.here hexec rfl (hb hbytes d0) rfl rfl ?_
    refine XS.aloadN X0.here hexec rfl (hb hbytes d1) rfl rfl ?_
    exact Steps.refl _)
  by_cases hxy : x = y
  · have c2 : Steps p.tables e below (s₁.setTop (entryFrame m #[.ref x, .ref y] 3)) (s₁.setTop (mkF m 6 #[.val (.ref x), .val (.ref y), .unset] [.int 1])) := c1.trans (by
      refine acmpNo X0.here hexec rfl (hb hbytes d2) rfl rfl rfl (by simp [acmp, hxy]) ?_
      refine iconstV X0.here hexec rfl 1 (hb hbytes d5) (by decide) ?_
      exact Steps.refl _)
    subst hxy
    have ec : cd = cd' := by
      obtain ⟨D, fd, a1, a2, a3⟩ := hx.2.2.1
      obtain ⟨D', fd', b1, b2, b3⟩ := hy.2.2.1
      cases a1.symm.trans b1
      obtain ⟨q1, q2, q3, q4⟩ := a2.1
      obtain ⟨r1, r2, r3, r4⟩ := b2.1
      cases q4.symm.trans r4
      cases a3.symm.trans b3; rfl
    have et : t = t' := by
      obtain ⟨D, fd, a1, a2, a3⟩ := hx.2.1
      obtain ⟨D', fd', b1, b2, b3⟩ := hy.2.1
      cases a1.symm.trans b1
      obtain ⟨q1, q2, q3, q4⟩ := a2.1
      obtain ⟨r1, r2, r3, r4⟩ := b2.1
      cases q4.symm.trans r4
      cases a3.symm.trans b3; rfl
    subst ec et
    have ev : V = V' := by cases hx.2.2.2.1.1.symm.trans hy.2.2.2.1.1; rfl
    subst ev
    have hs : SameT n f k g := (Cod.eqv hx.2.2.2.2.1 hy.2.2.2.2.1 hx.2.2.2.2.2 hy.2.2.2.2.2).mp ⟨rfl, fun _ _ => rfl⟩
    exact ⟨s₁, some (.int 1), _, _, _, X0, rfl, rfl, rfl, (fun h => by cases h), ⟨1, rfl, hh0, Or.inl ⟨rfl, hs⟩⟩, fun fs hl => c2.trans (X0.ireturnOut hexec hret rfl (Or.inr (Or.inl rfl)) (hb hbytes d6) hl)⟩
  · have c2 : Steps p.tables e below (s₁.setTop (entryFrame m #[.ref x, .ref y] 3)) (s₁.setTop (mkF m 8 #[.val (.ref x), .val (.ref y), .unset] [.ref y])) := c1.trans (by
      refine acmpYes X0.here hexec rfl (pc0 := 2) rfl (hb hbytes d2) rfl rfl rfl (by simp [acmp, hxy]) (by decide) rfl ?_
      refine XS.aloadN X0.here hexec rfl (hb hbytes d7) rfl rfl ?_
      exact Steps.refl _)
    obtain ⟨T3, X3, q3, st3⟩ := cinst X0 hexec hown (wk W (.classLink "java/lang/String" 10 "java/lang/String")) (hy.mv X0.warmed.alike hh0).1 (g := (mkF m 8 #[.val (.ref x), .val (.ref y), .unset] [.ref y])) rfl (rest := []) rfl (hb hbytes d8)
    have hh3 := q3.trans hh0
    have c4 : Steps p.tables e below (s₁.setTop (entryFrame m #[.ref x, .ref y] 3)) (T3.setTop (mkF m 15 #[.val (.ref x), .val (.ref y), .unset] [.ref y])) := (c2.trans (st3 _ (Steps.refl _))).trans (by
      refine XS.ifNo X3.here hexec rfl (hb hbytes d11) rfl (i0_eq_f (by decide)) ?_
      refine XS.aloadN X3.here hexec rfl (hb hbytes d14) rfl rfl ?_
      exact Steps.refl _)
    obtain ⟨T5, X5, q5, st5⟩ := cself X3 hexec hown (wk W (.classLink "java/lang/String" 10 "java/lang/String")) (hy.mv X3.warmed.alike hh3).1 (g := (mkF m 15 #[.val (.ref x), .val (.ref y), .unset] [.ref y])) rfl (rest := []) rfl (hb hbytes d15)
    have hh5 := q5.trans hh3
    have c6 : Steps p.tables e below (s₁.setTop (entryFrame m #[.ref x, .ref y] 3)) (T5.setTop (mkF m 19 #[.val (.ref x), .val (.ref y), .val (.ref y)] [])) := (c4.trans (st5 _ (Steps.refl _))).trans (by
      refine XS.astoreN X5.here hexec rfl (hb hbytes d18) rfl rfl rfl ?_
      exact Steps.refl _)
    obtain ⟨T7, X7, q7, st7⟩ := X5.sget hexec hown (wk W (.fieldLink "java/lang/String" 38 "java/lang/String" "COMPACT_STRINGS" "Z")) s1 (fun _ _ h => by rw [hh5]; exact h) (g := (mkF m 19 #[.val (.ref x), .val (.ref y), .val (.ref y)] [])) rfl (hb hbytes d19)
    have hh7 := q7.trans hh5
    have c8 : Steps p.tables e below (s₁.setTop (entryFrame m #[.ref x, .ref y] 3)) (T7.setTop (mkF m 26 #[.val (.ref x), .val (.ref y), .val (.ref y)] [.ref x])) := (c6.trans (st7 _ (Steps.refl _))).trans (by
      refine XS.ifNo X7.here hexec rfl (hb hbytes d22) rfl (i0_eq_f hz) ?_
      refine XS.aloadN X7.here hexec rfl (hb hbytes d25) rfl rfl ?_
      exact Steps.refl _)
    obtain ⟨T9, X9, q9, st9⟩ := X7.hget hexec hown (wk W (.fieldLink "java/lang/String" 15 "java/lang/String" "coder" "B")) (hx.mv X7.warmed.alike hh7).2.2.1 (g := (mkF m 26 #[.val (.ref x), .val (.ref y), .val (.ref y)] [.ref x])) rfl (rest := []) rfl (hb hbytes d26)
    have hh9 := q9.trans hh7
    have c10 : Steps p.tables e below (s₁.setTop (entryFrame m #[.ref x, .ref y] 3)) (T9.setTop (mkF m 30 #[.val (.ref x), .val (.ref y), .val (.ref y)] [.ref y, .int cd])) := (c8.trans (st9 _ (Steps.refl _))).trans (by
      refine XS.aloadN X9.here hexec rfl (hb hbytes d29) rfl rfl ?_
      exact Steps.refl _)
    obtain ⟨T11, X11, q11, st11⟩ := X9.hget hexec hown (wk W (.fieldLink "java/lang/String" 15 "java/lang/String" "coder" "B")) (hy.mv X9.warmed.alike hh9).2.2.1 (g := (mkF m 30 #[.val (.ref x), .val (.ref y), .val (.ref y)] [.ref y, .int cd])) rfl (rest := [.int cd]) rfl (hb hbytes d30)
    have hh11 := q11.trans hh9
    have c12 : Steps p.tables e below (s₁.setTop (entryFrame m #[.ref x, .ref y] 3)) (T11.setTop (mkF m 33 #[.val (.ref x), .val (.ref y), .val (.ref y)] [.int cd', .int cd])) := c10.trans (st11 _ (Steps.refl _))
    by_cases hcd : cd = cd'
    · subst hcd
      have c13 : Steps p.tables e below (s₁.setTop (entryFrame m #[.ref x, .ref y] 3)) (T11.setTop (mkF m 37 #[.val (.ref x), .val (.ref y), .val (.ref y)] [.ref x])) := c12.trans (by
        refine XS.icmpNo X11.here hexec rfl (hb hbytes d33) rfl (ii_ne_f rfl) ?_
        refine XS.aloadN X11.here hexec rfl (hb hbytes d36) rfl rfl ?_
        exact Steps.refl _)
      obtain ⟨T14, X14, q14, st14⟩ := X11.hget hexec hown (wk W (.fieldLink "java/lang/String" 9 "java/lang/String" "value" "[B")) (hx.mv X11.warmed.alike hh11).2.1 (g := (mkF m 37 #[.val (.ref x), .val (.ref y), .val (.ref y)] [.ref x])) rfl (rest := []) rfl (hb hbytes d37)
      have hh14 := q14.trans hh11
      have c15 : Steps p.tables e below (s₁.setTop (entryFrame m #[.ref x, .ref y] 3)) (T14.setTop (mkF m 41 #[.val (.ref x), .val (.ref y), .val (.ref y)] [.ref y, .ref t])) := (c13.trans (st14 _ (Steps.refl _))).trans (by
        refine XS.aloadN X14.here hexec rfl (hb hbytes d40) rfl rfl ?_
        exact Steps.refl _)
      obtain ⟨T16, X16, q16, st16⟩ := X14.hget hexec hown (wk W (.fieldLink "java/lang/String" 9 "java/lang/String" "value" "[B")) (hy.mv X14.warmed.alike hh14).2.1 (g := (mkF m 41 #[.val (.ref x), .val (.ref y), .val (.ref y)] [.ref y, .ref t])) rfl (rest := [.ref t]) rfl (hb hbytes d41)
      have hh16 := q16.trans hh14
      have c17 : Steps p.tables e below (s₁.setTop (entryFrame m #[.ref x, .ref y] 3)) (T16.setTop (mkF m 44 #[.val (.ref x), .val (.ref y), .val (.ref y)] [.ref t', .ref t])) := c15.trans (st16 _ (Steps.refl _))
      obtain ⟨v18, T18, X18, E18, g18⟩ := X16.callS hexec (LEq.law l t V t' V') hown (wks W (staticW "java/lang/String" 541 LEq.yN)) (wk W LEq.tab) (W := 0) (Nat.le_of_ble_eq_true rfl) (Nat.le_of_ble_eq_true rfl) (Nat.le_refl _) (Nat.le_refl _) (g := (mkF m 44 #[.val (.ref x), .val (.ref y), .val (.ref y)] [.ref t', .ref t])) rfl (by rw [hml]; rfl) c17 (argsL := [.ref t, .ref t']) (rest := []) rfl rfl (by show 2 * 0 + 0 ≤ _; decide) (hb hbytes d44) (⟨rfl, hx.2.2.2.1.mv X16.warmed.alike hh16, hx.2.2.2.2.1.ty, hy.2.2.2.1.mv X16.warmed.alike hh16, hy.2.2.2.2.1.ty⟩)
      obtain ⟨v, rfl, q18, hv⟩ := E18
      have iff := Cod.eqv hx.2.2.2.2.1 hy.2.2.2.2.1 hx.2.2.2.2.2 hy.2.2.2.2.2
      rcases hv with ⟨rfl, he⟩ | ⟨rfl, he⟩
      · have c19 : Steps p.tables e below (s₁.setTop (entryFrame m #[.ref x, .ref y] 3)) (T18.setTop (mkF m 55 #[.val (.ref x), .val (.ref y), .val (.ref y)] [.int 1])) := Steps.trans g18 (by
          refine XS.ifNo X18.here hexec rfl (hb hbytes d47) rfl (i0_eq_f (by decide)) ?_
          refine iconstV X18.here hexec rfl 1 (hb hbytes d50) (by decide) ?_
          refine XS.goto X18.here hexec rfl (pc0 := 51) rfl (hb hbytes d51) (by decide) rfl ?_
          exact Steps.refl _)
        exact ⟨T18, some (.int 1), _, _, _, X18, rfl, rfl, rfl, (fun h => by cases h), ⟨1, rfl, q18.trans hh16, Or.inl ⟨rfl, iff.mp he⟩⟩, fun fs hl => c19.trans (X18.ireturnOut hexec hret rfl (Or.inr (Or.inl rfl)) (hb hbytes d55) hl)⟩
      · have c19 : Steps p.tables e below (s₁.setTop (entryFrame m #[.ref x, .ref y] 3)) (T18.setTop (mkF m 55 #[.val (.ref x), .val (.ref y), .val (.ref y)] [.int 0])) := Steps.trans g18 (by
          refine XS.ifYes X18.here hexec rfl (pc0 := 47) rfl (hb hbytes d47) rfl (i0_eq_t rfl) (by decide) rfl ?_
          refine iconstV X18.here hexec rfl 0 (hb hbytes d54) (by decide) ?_
          exact Steps.refl _)
        exact ⟨T18, some (.int 0), _, _, _, X18, rfl, rfl, rfl, (fun h => by cases h), ⟨0, rfl, q18.trans hh16, Or.inr ⟨rfl, fun q => he (iff.mpr q)⟩⟩, fun fs hl => c19.trans (X18.ireturnOut hexec hret rfl (Or.inr (Or.inl rfl)) (hb hbytes d55) hl)⟩
    · have c13 : Steps p.tables e below (s₁.setTop (entryFrame m #[.ref x, .ref y] 3)) (T11.setTop (mkF m 55 #[.val (.ref x), .val (.ref y), .val (.ref y)] [.int 0])) := c12.trans (by
        refine XS.icmpYes X11.here hexec rfl (pc0 := 33) rfl (hb hbytes d33) rfl (ii_ne_t hcd) (by decide) rfl ?_
        refine iconstV X11.here hexec rfl 0 (hb hbytes d54) (by decide) ?_
        exact Steps.refl _)
      exact ⟨T11, some (.int 0), _, _, _, X11, rfl, rfl, rfl, (fun h => by cases h), ⟨0, rfl, hh11, Or.inr ⟨rfl, Cod.dif hx.2.2.2.2.1 hy.2.2.2.2.1 hcd⟩⟩, fun fs hl => c13.trans (X11.ireturnOut hexec hret rfl (Or.inr (Or.inl rfl)) (hb hbytes d55) hl)⟩
theorem pays {l : Launch} {R : Room} {p : Program} {e : Env} {below : List Frame} {s : State} {sargs : Array Value} {len W : Nat} (x t : Addr) (V : Cell) (cd : Int32) (n : Nat) (f : Nat → Int32) (y t' : Addr) (V' : Cell) (cd' : Int32) (k : Nat) (g : Nat → Int32) (z : Int32) (htab : tab.before sargs s = true) (hfr : 2 ≤ R.frames) (hlo : W + 28 ≤ R.locals) :
    Back l R p e below s sargs yN len W (fun A₁ a₁ => A₁.cells + 0 ≤ R.cells ∧ A₁.slots + 0 ≤ R.slots ∧ P x t V cd n f y t' V' cd' k g z a₁ A₁.U) (fun A₁ _ v₁ B₁ => Says01 (SameT n f k g) v₁ A₁.U B₁.U ∧ B₁.locs = A₁.locs ++ [] ∧ B₁.cells = A₁.cells + 0 ∧ B₁.slots = A₁.slots + 0) :=
  (law l x t V cd n f y t' V' cd' k g z).pays htab hfr (by omega)
end SEq
end StrChars
namespace StrChars.Road
open Jvm Sem ClassFile Op Lib Jvm.Stand Jvm.Free Jvm.Free.XT
open Jvm.Lib.Cold (StaticIs)
/-- the words of String.equals(Object) -/
abbrev wordsEq : List Jvm.Cond := [.code SEq.yN SEq.yB 3 (some .boolean), .initialized ST, .classLink ST 10 ST, .fieldLink ST 38 ST "COMPACT_STRINGS" "Z", .fieldLink ST 15 ST "coder" "B", .fieldLink ST 9 ST "value" "[B", .methodLink ST 541 LEq.yN, .static LEq.yN, .code LEq.yN LEq.yB 3 (some .boolean), .initialized "java/lang/StringLatin1"]
theorem tabEq_of {a : Array Value} {s : State} (h : ∀ w ∈ wordsEq, w.before a s = true) : SEq.tab.before a s = true := by
  have hl : LEq.tab.before a s = true := unparts (wk h (.code LEq.yN LEq.yB 3 (some .boolean))) (wks h (.initialized LEq.yN.cls :: LEq.site))
  have q := consq hl h
  exact unparts (wk q (.code SEq.yN SEq.yB 3 (some .boolean))) (wks q (.initialized SEq.yN.cls :: SEq.site))
theorem movedEq {Z s : State} {a0 args : Array Value} (hZ : Z.Warmed39 s.vm) (hw : ∀ d ∈ wordsEq, d.before a0 Z = true) : ∀ d ∈ wordsEq, d.before args s = true := fun d hd => by
  have t : ∀ d ∈ wordsEq, (d.onTables && d.keepsFace) = true := by decide +kernel
  exact RoadKit.mv hZ (hw d hd) (t d hd)
/-- the road's facts of a String, as the laws ask it -/
theorem txt_of {Z U : State} {a0 : Array Value} {kI : Nat} (wi : (Jvm.Cond.instantiable ST kI).before a0 Z = true) (al : Z.vm.Alike U.vm) {x t : Addr} {kb : ClassId} {cs : List Int32} {cd N2 : Int32} {vs : List Value} (E : RoadKit.Exa Z U.heap x ST) (V : RoadKit.Fld Z U.heap x ST "value" "[B" (.ref t)) (C : RoadKit.Fld Z U.heap x ST "coder" "B" (.int cd)) (K : RoadKit.Arv Z U.heap t kb .byte N2 vs (.int 0)) (hc : CodA cs cd N2 vs) (hb : ∀ c ∈ cs, ¬ c < 0 ∧ ¬ (65535 : Int32) < c) (l2 : cs.length ≤ 4000) :
    ∃ A, Txt x t A cd cs.length (fun j => cs.getD j 0) U := by
  obtain ⟨A, K1, K2, K3, K4, K5, K6⟩ := K
  have hcod := hc.cod (by omega) K3 K5
  obtain ⟨D, fV, fC, hB, F1, F2, g1, g2, -, -⟩ := strObj wi al E V C
  exact ⟨A, ⟨_, hB.2.2.1, D, hB.1, rfl, by cases q : D.vm <;> first | rfl | exact absurd q (hB.2.1.2 _)⟩, Has.of hB F1 g1, Has.of hB F2 g2, ⟨K1.1, State.isArrayOf_alike al K1.2.1, K1.2.2, by rcases hcod with ⟨-, q, -⟩ | ⟨-, q, -⟩ <;> omega⟩, hcod, fun j hj => by
    have e : cs.getD j 0 = cs[j] := by simp [List.getD_eq_getElem?_getD, hj]
    show ¬ cs.getD j 0 < 0 ∧ ¬ 65535 < cs.getD j 0
    rw [e]; exact hb _ (List.getElem_mem _)⟩
theorem same_list (cs ds : List Int32) : SameT cs.length (fun j => cs.getD j 0) ds.length (fun j => ds.getD j 0) ↔ cs = ds := by
  constructor
  · rintro ⟨e, q⟩
    refine List.ext_getElem e fun j h1 h2 => ?_
    have := q j h1
    simpa [List.getD_eq_getElem?_getD, h1, h2] using this
  · rintro rfl
    exact ⟨rfl, fun _ _ => rfl⟩
/-- **equals(Object) OF TWO SUCH STRINGS**: 1 just where the chars are the same -/
theorem eqW {p : Program} {l : Launch} {e : Env} {R : Room} {s : State} {args : Array Value} {below : List Frame} {len W : Nat} {Z : State} {a0 : Array Value} {h : Heap} (hZ : Z.Warmed39 s.vm) (hw : ∀ d ∈ wordsEq, d.before a0 Z = true) {kI : Nat} (wi : (Jvm.Cond.instantiable ST kI).before a0 Z = true)
    {x t : Addr} {kb : ClassId} {cs : List Int32} {cd N2 : Int32} {vs : List Value} (E : RoadKit.Exa Z h x ST) (V : RoadKit.Fld Z h x ST "value" "[B" (.ref t)) (C : RoadKit.Fld Z h x ST "coder" "B" (.int cd)) (K : RoadKit.Arv Z h t kb .byte N2 vs (.int 0)) (hc : CodA cs cd N2 vs) (hb : ∀ c ∈ cs, ¬ c < 0 ∧ ¬ (65535 : Int32) < c) (l2 : cs.length ≤ 4000)
    {y t' : Addr} {kb' : ClassId} {ds : List Int32} {cd' N2' : Int32} {vs' : List Value} (E' : RoadKit.Exa Z h y ST) (V' : RoadKit.Fld Z h y ST "value" "[B" (.ref t')) (C' : RoadKit.Fld Z h y ST "coder" "B" (.int cd')) (K' : RoadKit.Arv Z h t' kb' .byte N2' vs' (.int 0)) (hc' : CodA ds cd' N2' vs') (hb' : ∀ c ∈ ds, ¬ c < 0 ∧ ¬ (65535 : Int32) < c) (l2' : ds.length ≤ 4000)
    {z : Int32} (S : RoadKit.Sta Z h ST "COMPACT_STRINGS" "Z" (.int z)) (hz : ¬ z = 0) (hfr : 2 ≤ R.frames) (hlo : W + 28 ≤ R.locals) :
    Back l R p e below s args (⟨"java/lang/String", "equals", "(Ljava/lang/Object;)Z"⟩ : MethodName) len W (fun P a => a = #[.ref x, .ref y] ∧ P.U.heap = h ∧ P.cells + 0 ≤ R.cells ∧ P.slots + 0 ≤ R.slots)
      (fun P _ v B => ∃ L, (((v = some (.int 1) ∧ cs = ds) ∨ (v = some (.int 0) ∧ ¬ cs = ds)) ∧ L = [] ∧ B.U.heap = h) ∧ B.locs = P.locs ++ L ∧ B.cells = P.cells + 0 ∧ B.slots = P.slots + 0) := by
  intro m meth c P g ig mk a X hg hsize hdg hW hn hp'
  obtain ⟨rfl, rfl, r1, r2⟩ := hp'
  have al : Z.vm.Alike P.U.vm := hZ.alike.trans X.warmed.alike
  obtain ⟨A, hx⟩ := txt_of wi al E V C K hc hb l2
  obtain ⟨A', hy⟩ := txt_of wi al E' V' C' K' hc' hb' l2'
  obtain ⟨v, B, X', ⟨⟨w, hv, hh, hq⟩, hl, hk, hs⟩, st⟩ := SEq.pays x t A cd cs.length (fun j => cs.getD j 0) y t' A' cd' ds.length (fun j => ds.getD j 0) z (tabEq_of (movedEq hZ hw)) hfr hlo m meth c P g ig mk _ X hg hsize hdg hW hn ⟨r1, r2, rfl, hx, hy, sta_is al S, hz⟩
  refine ⟨v, B, X', ⟨[], ⟨?_, rfl, hh⟩, hl, hk, hs⟩, st⟩
  rcases hq with ⟨rfl, q⟩ | ⟨rfl, q⟩
  · exact Or.inl ⟨hv, (same_list cs ds).mp q⟩
  · exact Or.inr ⟨hv, fun e => q ((same_list cs ds).mpr e)⟩
end StrChars.Road
namespace StrChars.Road
open Jvm Sem ClassFile Op Lib Jvm.Stand Jvm.Free Jvm.Free.XT
open Jvm.Lib.Cold (StaticIs)
/-- what backV says of its String, as the contracts of this text ask it: cs's low bytes, coder 0 -/
theorem codOf {cs : List Int32} {n : Nat} (hn : cs.length = n) (hb : ∀ c ∈ cs, ¬ 255 < c) : CodA cs 0 (Int32.ofNat n) ((cs.map lo8).map Value.int) := Or.inl ⟨rfl, by rw [hn], by simp [List.map_map, Function.comp_def], hb⟩
end StrChars.Road
end Jvm.Pilot.@@N@@
namespace Jvm.Pilot.@@N@@
open Jvm Jvm.ClassFile Sem Op Lib Jvm.Free Jvm.Stand Jvm.LawKit Jvm.RoadKit Bundle Jvm.Pilot.@@N@@.Jvm.D
def bI (P : Prop) [Decidable P] : Int32 := if P then 1 else 0
theorem bI_eq {P Q : Prop} [Decidable P] [Decidable Q] : bI P = bI Q ↔ (P ↔ Q) := by unfold bI; by_cases h : P <;> by_cases g : Q <;> simp [h, g]
theorem bI_eq1 {P : Prop} [Decidable P] : bI P = 1 ↔ P := by unfold bI; by_cases h : P <;> simp [h]
theorem bI_1eq {P : Prop} [Decidable P] : 1 = bI P ↔ P := by unfold bI; by_cases h : P <;> simp [h]
theorem bI_eq0 {P : Prop} [Decidable P] : bI P = 0 ↔ (P ↔ False) := by unfold bI; by_cases h : P <;> simp [h]
theorem bI_0eq {P : Prop} [Decidable P] : 0 = bI P ↔ (False ↔ P) := by unfold bI; by_cases h : P <;> simp [h]
theorem bI_t {P : Prop} [Decidable P] (h : P) : bI P = 1 := if_pos h
theorem bI_f {P : Prop} [Decidable P] (h : ¬ P) : bI P = 0 := if_neg h
theorem bI_iff {P Q : Prop} [Decidable P] [Decidable Q] (h : P ↔ Q) : bI P = bI Q := bI_eq.mpr h
theorem imp_iff_h {P Q : Prop} (h : P) : (P → Q) ↔ Q := ⟨fun f => f h, fun q _ => q⟩
theorem sel_t {P A B : Prop} (h : P) : ((P ∧ A) ∨ (¬ P ∧ B)) ↔ A := ⟨fun q => q.elim (fun z => z.2) (fun z => absurd h z.1), fun a => Or.inl ⟨h, a⟩⟩
theorem sel_f {P A B : Prop} (h : ¬ P) : ((P ∧ A) ∨ (¬ P ∧ B)) ↔ B := ⟨fun q => q.elim (fun z => absurd z.1 h) (fun z => z.2), fun b => Or.inr ⟨h, b⟩⟩
theorem bB_eq_t {P : Prop} [Decidable P] (h : ¬ P) : ifCond.holds .eq (bI P) = true := by rw [bI_f h]; rfl
theorem bB_eq_f {P : Prop} [Decidable P] (h : P) : ifCond.holds .eq (bI P) = false := by rw [bI_t h]; rfl
theorem bB_ne_t {P : Prop} [Decidable P] (h : P) : ifCond.holds .ne (bI P) = true := by rw [bI_t h]; rfl
theorem bB_ne_f {P : Prop} [Decidable P] (h : ¬ P) : ifCond.holds .ne (bI P) = false := by rw [bI_f h]; rfl
theorem bI_nar {P : Prop} [Decidable P] : nar .boolean (bI P) = bI P := by by_cases h : P <;> simp only [bI, h, if_true, if_false] <;> rfl
theorem bI_ret {P : Prop} [Decidable P] : (some (.int (nar .boolean (bI P))) : Option Value) = some (.int (bI P)) := by rw [bI_nar]
theorem bI_one {P : Prop} [Decidable P] (h : P) : (some (.int (nar .boolean (bI P))) : Option Value) = some (.int 1) := by rw [bI_nar, bI_t h]
theorem own_ite_ref {P : Prop} [Decidable P] {x y : Value} (h : x.isRef = true) (g : y.isRef = true) : (if P then x else y).isRef = true := by by_cases q : P <;> simp [q, h, g]
theorem own_fits_ref {t : FieldType} {x : Value} (ht : t.isReference = true) (h : x.isRef = true) : fits t x = true := by cases t <;> first | (cases ht; done) | (cases x <;> simp_all [fits, Value.isRef])
theorem own_eqI {args : Array Value} {s : State} {t : Term} {k : Int32} (h : (Cond.eq t (.int k)).value args s none s [] = some true) : t.eval args s none [] s = some (.int k) := by
  simp only [Cond.value, Term.eval] at h
  cases ht : t.eval args s none [] s with
  | none => simp [ht] at h
  | some v => cases v <;> simp [ht] at h ⊢; exact h
theorem own_eqR {args : Array Value} {s : State} {t u : Term} {v : Value} (hu : u.eval args s none [] s = some v) (hv : v.isRef = true) (h : (Cond.eq t u).value args s none s [] = some true) : t.eval args s none [] s = some v := by
  cases ht : t.eval args s none [] s with
  | none => simp [Cond.value, ht, hu] at h
  | some x =>
    rcases ref_cases hv with rfl | ⟨a, rfl⟩ <;> cases x <;> simp [Cond.value, ht, hu] at h ⊢ <;> exact h
theorem own_len {args : Array Value} {s : State} {t : Term} {a : Addr} {c : Cell} {ty : FieldType} {k : Int32} (ev : t.eval args s none [] s = some (.ref a)) (A : Arr s s.heap a c ty) (h : (Term.length t).eval args s none [] s = some (.int k)) : c.slots.size < 2 ^ 31 ∧ c.slots.size.toInt32 = k := by
  have ha := A.fin (Vm.Alike.refl _)
  by_cases q : c.slots.size < 2 ^ 31
  · rw [len_f ev ha q] at h; exact ⟨q, by injection h with h; injection h⟩
  · simp [Term.eval, ev, ha, q] at h


theorem own_up {cs : List Int32} (h : ∀ c ∈ cs, ¬ c < 0 ∧ ¬ (255 : Int32) < c) : ∀ c ∈ cs, ¬ c < 0 ∧ ¬ (65535 : Int32) < c := fun c hc => ⟨(h c hc).1, fun q => (h c hc).2 (by rw [Int32.lt_iff_toInt_lt] at q ⊢; have e1 : (65535 : Int32).toInt = 65535 := rfl; have e2 : (255 : Int32).toInt = 255 := rfl; omega)⟩
theorem own_p0 : ∀ c ∈ ([] : List Int32), ¬ c < 0 ∧ ¬ (255 : Int32) < c := fun _ h => nomatch h
theorem own_pS {c : Int32} {cs : List Int32} (h : ¬ c < 0 ∧ ¬ (255 : Int32) < c) (g : ∀ c ∈ cs, ¬ c < 0 ∧ ¬ (255 : Int32) < c) : ∀ x ∈ c :: cs, ¬ x < 0 ∧ ¬ (255 : Int32) < x := fun x q => by
  rcases List.mem_cons.mp q with rfl | q
  · exact h
  · exact g x q
theorem own_eqB {v : Option Value} {cs ds : List Int32} {P Q : Prop} (h : (((v = some (.int 1) ∧ cs = ds) ∨ (v = some (.int 0) ∧ ¬ cs = ds)) ∧ P ∧ Q)) : v = some (.int (bI (cs = ds))) ∧ P ∧ Q := by
  obtain ⟨⟨h1, h2⟩ | ⟨h1, h2⟩, h3, h4⟩ := h
  · exact ⟨by rw [h1, bI_t h2], h3, h4⟩
  · exact ⟨by rw [h1, bI_f h2], h3, h4⟩
theorem own_cod {cs : List Int32} {n : Nat} {N : Int32} (hn : cs.length = n) (hN : N = Int32.ofNat n) (h : ∀ c ∈ cs, ¬ c < 0 ∧ ¬ (255 : Int32) < c) : StrChars.Road.CodA cs 0 N ((cs.map (fun c => c.toInt8.toInt32)).map Value.int) := by
  subst hN
  exact StrChars.Road.codOf hn (fun c hc => (h c hc).2)
theorem own_and255 (x : Int32) : ¬ (nar .char ((x &&& (255 : Int32)).toUInt32.toUInt16.toUInt32.toInt32)) < 0 ∧ ¬ (255 : Int32) < (nar .char ((x &&& (255 : Int32)).toUInt32.toUInt16.toUInt32.toInt32)) := by
  have t : ∀ k : Fin 256, ¬ nar .char ((Int32.ofNat k.val).toUInt32.toUInt16.toUInt32.toInt32) < 0 ∧ ¬ (255 : Int32) < nar .char ((Int32.ofNat k.val).toUInt32.toUInt16.toUInt32.toInt32) := by decide +kernel
  have h : (x &&& 255).toBitVec.toNat < 256 := by
    simp only [Int32.toBitVec_and, BitVec.toNat_and]
    exact Nat.lt_succ_of_le Nat.and_le_right
  have e : (x &&& 255) = Int32.ofNat (x &&& 255).toBitVec.toNat := by
    apply Int32.toBitVec_inj.mp
    show _ = BitVec.ofNat 32 _
    rw [BitVec.ofNat_toNat]; simp
  rw [e]
  exact t ⟨_, h⟩
theorem own_neI {args : Array Value} {s : State} {t : Term} {k x : Int32} (ev : t.eval args s none [] s = some (.int x)) (h : (Jvm.Cond.not (.eq t (.int k))).value args s none s [] = some true) : ¬ x = k := by
  have q := not_v h
  intro e
  subst e
  rw [eq_i ev (Term.int_eval x) rfl] at q
  cases q
def own_EL : List (String × Nat) := [("java/lang/String", 7)]
theorem own_EW {Z : State} {a0 : Array Value} (hw : ∀ d ∈ tables_1, d.before a0 Z = true) : EW Z a0 own_EL := EW.cons (text := "") (hw _ (List.mem_of_getElem? (i := 22) rfl)) (by decide +kernel) EW.nil
theorem own_safe_null {Z : State} {EL : List (String × Nat)} {vm : Vm} {h : Heap} {x : Addr} (hal : Z.vm.Alike vm) (E : Exa Z h x "java/lang/String") (F : Fld Z h x "java/lang/String" "value" "[B" .null) : Safe Z EL vm h x := fun B => by
  obtain ⟨cell, cf, k, i, f, f1, f2, f3, f4, f5, f6, f7⟩ := F
  obtain ⟨cell', k', e1, e2, e3, -, -⟩ := E
  cases f1.symm.trans e1
  obtain ⟨p, -, u, a, -, q, -, G, rfl | rfl⟩ := B
  · cases (show h[q.sa]? = some q.sC from G.ha).symm.trans f1
    obtain ⟨cS, ⟨⟨s1, s2, s3, ⟨cv, kv, iv, s4, s4'⟩, ⟨cc, kc, ic, s5, s5'⟩, s6, s7, s8, s9, s10, s11⟩, hfS, hcS⟩, -⟩ := G
    obtain ⟨kv', z4⟩ := ff_back (U := Wst Z vm h) hal s4
    cases f2.symm.trans z4
    rw [s8] at f7
    cases f7
  · cases (show h[q.sd]? = some q.SA from G.hd).symm.trans f1
    obtain ⟨cS, -, -, g, -⟩ := G
    have g' : Z.vm.findClass "[B" = some q.SA.cls := by rw [← hal.findClass]; exact g
    exact ids_ne e2 g' (by decide) rfl
def own_cs (l x0 x1 x2 : Int32) : List Int32 := if l = (0 : Int32) then [] else if l = (1 : Int32) then [x0] else if l = (2 : Int32) then [x0, x1] else [x0, x1, x2]
theorem own_cs_p {l x0 x1 x2 : Int32} (h0 : ¬ x0 < 0 ∧ ¬ (255 : Int32) < x0) (h1 : ¬ x1 < 0 ∧ ¬ (255 : Int32) < x1) (h2 : ¬ x2 < 0 ∧ ¬ (255 : Int32) < x2) : ∀ c ∈ own_cs l x0 x1 x2, ¬ c < 0 ∧ ¬ (255 : Int32) < c := by
  unfold own_cs
  by_cases q0 : l = (0 : Int32)
  · rw [if_pos q0]; exact own_p0
  · rw [if_neg q0]
    by_cases q1 : l = (1 : Int32)
    · rw [if_pos q1]; exact own_pS h0 own_p0
    · rw [if_neg q1]
      by_cases q2 : l = (2 : Int32)
      · rw [if_pos q2]; exact own_pS h0 (own_pS h1 own_p0)
      · rw [if_neg q2]; exact own_pS h0 (own_pS h1 (own_pS h2 own_p0))
theorem own_cs_len {l x0 x1 x2 : Int32} : (own_cs l x0 x1 x2).length ≤ 4000 := by
  unfold own_cs
  by_cases q0 : l = (0 : Int32)
  · rw [if_pos q0]; decide
  · rw [if_neg q0]
    by_cases q1 : l = (1 : Int32)
    · rw [if_pos q1]; exact Nat.le_of_ble_eq_true rfl
    · rw [if_neg q1]
      by_cases q2 : l = (2 : Int32)
      · rw [if_pos q2]; exact Nat.le_of_ble_eq_true rfl
      · rw [if_neg q2]; exact Nat.le_of_ble_eq_true rfl
def own_pk (f bit same : Int32) (b : Int64) (sh : Int32) : Int32 := nar .char (if ((f.toUInt32 >>> (bit &&& 31).toUInt32).toInt32 &&& (1 : Int32)) = (0 : Int32) then (((b.toUInt64 >>> (sh &&& 0x3f).toInt64.toUInt64).toInt64) &&& (255 : Int64)).toInt32.toUInt32.toUInt16.toUInt32.toInt32 else same)
theorem own_chL (y : Int64) : ¬ (nar .char ((y &&& (255 : Int64)).toInt32.toUInt32.toUInt16.toUInt32.toInt32)) < 0 ∧ ¬ (255 : Int32) < (nar .char ((y &&& (255 : Int64)).toInt32.toUInt32.toUInt16.toUInt32.toInt32)) := by
  have m := c_maskL y (255 : Int64) 8 (by decide) (by decide)
  have pw : ((2 ^ 8 : Nat) : Int) = 256 := rfl
  rw [pw] at m
  generalize (y &&& (255 : Int64)) = w at *
  have e : w.toInt32.toInt = w.toInt := XT.narrowInt ⟨by omega, by omega⟩
  generalize w.toInt32 = z at *
  have c1 := c_i2c z
  show ¬ (z.toUInt32.toUInt16.toUInt32.toInt32).toUInt32.toUInt16.toUInt32.toInt32 < 0 ∧ ¬ (255 : Int32) < (z.toUInt32.toUInt16.toUInt32.toInt32).toUInt32.toUInt16.toUInt32.toInt32
  generalize z.toUInt32.toUInt16.toUInt32.toInt32 = y1 at *
  have c2 := c_i2c y1
  have z0 : (0 : Int32).toInt = 0 := rfl
  have z2 : (255 : Int32).toInt = 255 := rfl
  rw [Int32.lt_iff_toInt_lt, Int32.lt_iff_toInt_lt, z0, z2]
  omega
theorem own_nar2 {x : Int32} (h : ¬ x < 0 ∧ ¬ (255 : Int32) < x) : nar .char x = x := by
  show x.toUInt32.toUInt16.toUInt32.toInt32 = x
  have r := c_i2c x
  have z0 : (0 : Int32).toInt = 0 := rfl
  have z2 : (255 : Int32).toInt = 255 := rfl
  rw [Int32.lt_iff_toInt_lt, Int32.lt_iff_toInt_lt, z0, z2] at h
  refine Int32.toInt_inj.mp ?_
  omega
theorem own_pk_p (f bit same : Int32) (b : Int64) (sh : Int32) (h : ¬ same < 0 ∧ ¬ (255 : Int32) < same) : ¬ (nar .char (own_pk f bit same b sh)) < 0 ∧ ¬ (255 : Int32) < (nar .char (own_pk f bit same b sh)) := by
  have k : ¬ (own_pk f bit same b sh) < 0 ∧ ¬ (255 : Int32) < (own_pk f bit same b sh) := by
    unfold own_pk
    by_cases q : ((f.toUInt32 >>> (bit &&& 31).toUInt32).toInt32 &&& (1 : Int32)) = (0 : Int32)
    · rw [if_pos q]; exact own_chL _
    · rw [if_neg q, own_nar2 h]; exact h
  rw [own_nar2 k]; exact k
theorem own_r4 (x : Int32) : (x &&& (3 : Int32)) = 0 ∨ (x &&& (3 : Int32)) = 1 ∨ (x &&& (3 : Int32)) = 2 ∨ (x &&& (3 : Int32)) = 3 := by
  have m := c_mask x (3 : Int32) 2 (by decide) (by decide)
  have pw : ((2 ^ 2 : Nat) : Int) = 4 := rfl
  rw [pw] at m
  generalize (x &&& (3 : Int32)) = u at *
  have k : u.toInt = 0 ∨ u.toInt = 1 ∨ u.toInt = 2 ∨ u.toInt = 3 := by omega
  rcases k with k | k | k | k
  · exact Or.inl (Int32.toInt_inj.mp k)
  · exact Or.inr (Or.inl (Int32.toInt_inj.mp k))
  · exact Or.inr (Or.inr (Or.inl (Int32.toInt_inj.mp k)))
  · exact Or.inr (Or.inr (Or.inr (Int32.toInt_inj.mp k)))
theorem own_len2 {z y : Int32} {P : Prop} [Decidable P] {l : Int32} (h : z = if P then (y &&& (3 : Int32)) else l) (hl : l = 0 ∨ l = 1 ∨ l = 2 ∨ l = 3) : z = 0 ∨ z = 1 ∨ z = 2 ∨ z = 3 := by
  by_cases q : P
  · rw [h, if_pos q]; exact own_r4 y
  · rw [h, if_neg q]; exact hl
theorem own_NS_root {Z : State} {a0 : Array Value} {O K : String} {n : Nat} (w : (Jvm.Cond.noSuperclass O).before a0 Z = true) (wk : (Jvm.Cond.instantiable K n).before a0 Z = true) (hn : O ≠ K) : NS Z O K := by
  obtain ⟨c, k, h1, h2, h3, -, -⟩ := Cond.noSuperclass_spec w
  obtain ⟨t, kt, g1, -⟩ := Cond.instantiable_spec wk
  have ne := ids_ne h1 g1 hn
  refine ⟨c, t, h1, g1, fun fuel => ?_⟩
  cases fuel with
  | zero => rfl
  | succ f => simp [Vm.isSubclassAux, ne, h2, h3]
theorem own_NS_no {Z : State} {a0 : Array Value} {C S K : String} {n : Nat} (w : (Jvm.Cond.superclass C S).before a0 Z = true) (wk : (Jvm.Cond.instantiable K n).before a0 Z = true) (q : NS Z C K) (hn : C ≠ K) : ∃ c t, Z.vm.findClass C = some c ∧ Z.vm.findClass K = some t ∧ Z.vm.assignable c t = false := by
  obtain ⟨c, t, h0, g0, n3⟩ := q
  obtain ⟨p, k, kp, h1, h2, h3, h4, h5, -, h7⟩ := Cond.superclass_spec h0 w
  obtain ⟨t', kt, g1, g2, g3, g4, -⟩ := Cond.instantiable_spec wk
  cases g0.symm.trans g1
  have ne := ids_ne h0 g0 hn
  have g7 : kt.isInterface = false := (Bool.or_eq_false_iff.mp g4).1
  refine ⟨c, t, h0, g0, ?_⟩
  show Z.vm.assignableAux (255 + 1) c t = false
  simp [Vm.assignableAux, ne, h2, g2, h5, g3, g7, Vm.isSubclass, n3]
theorem own_nn {x : Int32} (h : ¬ x < 0 ∧ ¬ (255 : Int32) < x) : ¬ (nar .char x) < 0 ∧ ¬ (255 : Int32) < (nar .char x) := by rw [own_nar2 h]; exact h
theorem own_sc {l1 l2 x0 x1 x2 y0 y1 y2 : Int32} (h1 : l1 = 0 ∨ l1 = 1 ∨ l1 = 2 ∨ l1 = 3) (h2 : l2 = 0 ∨ l2 = 1 ∨ l2 = 2 ∨ l2 = 3) : own_cs l1 x0 x1 x2 = own_cs l2 y0 y1 y2 ↔ ((l1 = l2) ∧ ((((2 : Int32) < l1) ∧ (((((1 : Int32) < l1) ∧ ((((0 : Int32) < l1) → (x0 = y0)) ∧ (x1 = y1))) ∨ (¬ ((1 : Int32) < l1) ∧ (((0 : Int32) < l1) → (x0 = y0)))) ∧ (x2 = y2))) ∨ (¬ ((2 : Int32) < l1) ∧ ((((1 : Int32) < l1) ∧ ((((0 : Int32) < l1) → (x0 = y0)) ∧ (x1 = y1))) ∨ (¬ ((1 : Int32) < l1) ∧ (((0 : Int32) < l1) → (x0 = y0))))))) := by
  rcases h1 with rfl | rfl | rfl | rfl <;> rcases h2 with rfl | rfl | rfl | rfl <;> simp +decide [own_cs, and_assoc]
theorem own_k0 {l1 l2 x0 x1 x2 y0 y1 y2 p q : Int32} (h1 : l1 = 0 ∨ l1 = 1 ∨ l1 = 2 ∨ l1 = 3) (h2 : l2 = 0 ∨ l2 = 1 ∨ l2 = 2 ∨ l2 = 3) : ((own_cs l2 y0 y1 y2 = own_cs l1 x0 x1 x2) ∧ (q = p)) ↔ (((l1 = l2) ∧ ((((2 : Int32) < l1) ∧ (((((1 : Int32) < l1) ∧ ((((0 : Int32) < l1) → (x0 = y0)) ∧ (x1 = y1))) ∨ (¬ ((1 : Int32) < l1) ∧ (((0 : Int32) < l1) → (x0 = y0)))) ∧ (x2 = y2))) ∨ (¬ ((2 : Int32) < l1) ∧ ((((1 : Int32) < l1) ∧ ((((0 : Int32) < l1) → (x0 = y0)) ∧ (x1 = y1))) ∨ (¬ ((1 : Int32) < l1) ∧ (((0 : Int32) < l1) → (x0 = y0))))))) ∧ (p = q)) := by
  rw [← own_sc h1 h2, eq_comm (a := own_cs l2 y0 y1 y2), eq_comm (a := q)]
theorem own_k1 {l1 l2 x0 x1 x2 y0 y1 y2 p q : Int32} (h1 : l1 = 0 ∨ l1 = 1 ∨ l1 = 2 ∨ l1 = 3) (h2 : l2 = 0 ∨ l2 = 1 ∨ l2 = 2 ∨ l2 = 3) : ((own_cs l1 x0 x1 x2 = own_cs l2 y0 y1 y2) ∧ (p = q)) ↔ (((l1 = l2) ∧ ((((2 : Int32) < l1) ∧ (((((1 : Int32) < l1) ∧ ((((0 : Int32) < l1) → (x0 = y0)) ∧ (x1 = y1))) ∨ (¬ ((1 : Int32) < l1) ∧ (((0 : Int32) < l1) → (x0 = y0)))) ∧ (x2 = y2))) ∨ (¬ ((2 : Int32) < l1) ∧ ((((1 : Int32) < l1) ∧ ((((0 : Int32) < l1) → (x0 = y0)) ∧ (x1 = y1))) ∨ (¬ ((1 : Int32) < l1) ∧ (((0 : Int32) < l1) → (x0 = y0))))))) ∧ (p = q)) := by
  rw [own_sc h1 h2]

theorem d1_0 : decode method_4_code 0 = .ok (.iload_n 0, 1) := by decide +kernel
theorem d1_1 : decode method_4_code 1 = .ok (.iload_n 1, 1) := by decide +kernel
theorem d1_2 : decode method_4_code 2 = .ok (.iushr, 1) := by decide +kernel
theorem d1_3 : decode method_4_code 3 = .ok (.iconst 1, 1) := by decide +kernel
theorem d1_4 : decode method_4_code 4 = .ok (.iand, 1) := by decide +kernel
theorem d1_5 : decode method_4_code 5 = .ok (.ifCond .eq 5, 3) := by decide +kernel
theorem d1_8 : decode method_4_code 8 = .ok (.iload_n 2, 1) := by decide +kernel
theorem d1_9 : decode method_4_code 9 = .ok (.ireturn, 1) := by decide +kernel
theorem d1_10 : decode method_4_code 10 = .ok (.lload_n 3, 1) := by decide +kernel
theorem d1_11 : decode method_4_code 11 = .ok (.iload 5, 2) := by decide +kernel
theorem d1_13 : decode method_4_code 13 = .ok (.lushr, 1) := by decide +kernel
theorem d1_14 : decode method_4_code 14 = .ok (.ldc2_w 12, 3) := by decide +kernel
theorem d1_17 : decode method_4_code 17 = .ok (.land, 1) := by decide +kernel
theorem d1_18 : decode method_4_code 18 = .ok (.l2i, 1) := by decide +kernel
theorem d1_19 : decode method_4_code 19 = .ok (.i2c, 1) := by decide +kernel
theorem d1_20 : decode method_4_code 20 = .ok (.ireturn, 1) := by decide +kernel
theorem pn_1 : plainName "com/example/postie/postie/config/ListenEqualsPinLaw" = true := by first | (simp [plainName, overriddenIn]; done) | decide +kernel
theorem ef_rmPk (m : MethodId) (x0 : Int32) (x1 : Int32) (x2 : Int32) (x3 : Int64) (x4 : Int32) : entryFrame m #[(.int x0), (.int x1), (.int x2), (.long x3), (.int x4)] 6 = mkF m 0 #[.val (.int x0), .val (.int x1), .val (.int x2), .val (.long x3), .second, .val (.int x4)] [] := by first | (simp [entryFrame, mkF, argsToLocals, Value.category]; done) | rfl
def QPk (Z : State) (p1 : Int32) (p2 : Int32) (p3 : Int32) (q4 : Int64) (p5 : Int32) (h0 : Heap) (n0 : Nat) (v : Option Value) (h : Heap) (L : List Loc) : Prop := v = some (.int (own_pk p1 p2 p3 q4 p5)) ∧ Fr n0 L ∧ h = h0
set_option maxRecDepth 65536 in
set_option maxHeartbeats 40000000 in
theorem rmPk (l : Launch) (Z : State) (a0 : Array Value) (hw : ∀ d ∈ tables_1, d.before a0 Z = true) (ws : List Jvm.Cond) (p1 : Int32) (p2 : Int32) (p3 : Int32) (q4 : Int64) (p5 : Int32) (h0 : Heap) (n0 : Nat) (Z0 : n0 ≤ h0.size) :
    MetFree l (⟨"com/example/postie/postie/config/ListenEqualsPinLaw", "pick", "(IICJI)C"⟩ : MethodName) (head1 (Jvm.Cond.code (⟨"com/example/postie/postie/config/ListenEqualsPinLaw", "pick", "(IICJI)C"⟩ : MethodName) method_4_code 6 (some .char) :: ws) ({ frames := 0, cells := 0, slots := 0, locals := 0 } : Room)) (fun ar UU => ar = #[(.int p1), (.int p2), (.int p3), (.long q4), (.int p5)] ∧ Z.Warmed39 UU.vm ∧ UU.heap = h0) (fun _ _ _ _ _ => True) (fun _ UU oo UU' => ∃ vv LL, oo = .returned vv ∧ QPk Z p1 p2 p3 q4 p5 h0 n0 vv UU'.heap LL ∧ FrameEnd UU oo UU' LL ({ frames := 0, cells := 0, slots := 0, locals := 0 } : Room).cells ({ frames := 0, cells := 0, slots := 0, locals := 0 } : Room).slots) := by
  refine MetFree.of_bodySF (plainFor_of_name pn_1) hisR ?_
  intro p e s m args below meth c s₁ Bd hml0 hP hK
  obtain ⟨rfl, hZ, hh⟩ := hP
  have hx := Bd.exec
  have hby := Bd.bytes
  have hml : c.maxLocals = 6 := hml0
  have hown : s.vm.findClass "com/example/postie/postie/config/ListenEqualsPinLaw" = some m.cls := findClass_of_methodNamed Bd.named
  have hnm := (name_of_methodNamed Bd.named Bd.method).1
  have X0 : Stand p l e ({ frames := 0, cells := 0, slots := 0, locals := 0 } : Room) s m #[(.int p1), (.int p2), (.int p3), (.long q4), (.int p5)] below meth c s₁ [] 0 0 := Stand.of_body Bd
  have e0 : s₁.heap = h0 := by rw [← hh, Bd.state]; rfl
  have N0 := Fr.nil n0
  have KC0 : Keep h0 h0 [] := Keep.refl h0 []
  have pre0 : ∀ tgt, Steps p.tables e below (s₁.setTop (mkF m 0 #[.val (.int p1), .val (.int p2), .val (.int p3), .val (.long q4), .second, .val (.int p5)] [])) tgt → Steps p.tables e below (s₁.setTop (entryFrame m #[(.int p1), (.int p2), (.int p3), (.long q4), (.int p5)] 6)) tgt := fun tgt kk => castTop (ef_rmPk m (p1) (p2) (p3) (q4) (p5)) kk
  have pre1 : ∀ tgt, Steps p.tables e below (s₁.setTop (mkF m 5 #[.val (.int p1), .val (.int p2), .val (.int p3), .val (.long q4), .second, .val (.int p5)] [(.int (((p1.toUInt32 >>> (p2 &&& 31).toUInt32).toInt32) &&& (1 : Int32)))])) tgt → Steps p.tables e below (s₁.setTop (entryFrame m #[(.int p1), (.int p2), (.int p3), (.long q4), (.int p5)] 6)) tgt := by
    intro tgt kk
    refine pre0 tgt ?_
    refine XS.iloadN X0.here hx rfl (hb hby d1_0) rfl ?_
    show Steps p.tables e below (s₁.setTop (mkF m 1 #[.val (.int p1), .val (.int p2), .val (.int p3), .val (.long q4), .second, .val (.int p5)] [(.int p1)])) _
    refine XS.iloadN X0.here hx rfl (hb hby d1_1) rfl ?_
    show Steps p.tables e below (s₁.setTop (mkF m 2 #[.val (.int p1), .val (.int p2), .val (.int p3), .val (.long q4), .second, .val (.int p5)] [(.int p2), (.int p1)])) _
    refine XS.iushr X0.here hx rfl (hb hby d1_2) rfl ?_
    show Steps p.tables e below (s₁.setTop (mkF m 3 #[.val (.int p1), .val (.int p2), .val (.int p3), .val (.long q4), .second, .val (.int p5)] [(.int ((p1.toUInt32 >>> (p2 &&& 31).toUInt32).toInt32))])) _
    refine XS.iconst X0.here hx rfl (hb hby d1_3) ?_
    show Steps p.tables e below (s₁.setTop (mkF m 4 #[.val (.int p1), .val (.int p2), .val (.int p3), .val (.long q4), .second, .val (.int p5)] [(.int (1 : Int32)), (.int ((p1.toUInt32 >>> (p2 &&& 31).toUInt32).toInt32))])) _
    refine XS.iand X0.here hx rfl (hb hby d1_4) rfl ?_
    show Steps p.tables e below (s₁.setTop (mkF m 5 #[.val (.int p1), .val (.int p2), .val (.int p3), .val (.long q4), .second, .val (.int p5)] [(.int (((p1.toUInt32 >>> (p2 &&& 31).toUInt32).toInt32) &&& (1 : Int32)))])) _
    exact kk
  by_cases hc5_2 : (((p1.toUInt32 >>> (p2 &&& 31).toUInt32).toInt32) &&& (1 : Int32)) = (0 : Int32)
  · skip
    obtain ⟨fs, hr, hrun, hended, hW, hsame⟩ := X0.leave (v := some (.int (nar .char (((q4.toUInt64 >>> (p5 &&& 0x3f).toInt64.toUInt64).toInt64) &&& (255 : Int64)).toInt32.toUInt32.toUInt16.toUInt32.toInt32))) (fun h => by rw [Bd.returns] at h; cases h)
    refine ⟨_, _, pre1 _ ?_, hrun, hended, _, _, rfl, ?_, ⟨_, rfl⟩, hW, hsame.mono (by decide) (by decide)⟩
    · skip
      refine XS.ifYes X0.here hx rfl (pc0 := 5) (pc' := 10) rfl (hb hby d1_5) rfl (XT.i0_eq_t hc5_2) (by decide) (by decide) ?_
      show Steps p.tables e below (s₁.setTop (mkF m 10 #[.val (.int p1), .val (.int p2), .val (.int p3), .val (.long q4), .second, .val (.int p5)] [])) _
      refine XS.lloadN X0.here hx rfl (hb hby d1_10) rfl ?_
      show Steps p.tables e below (s₁.setTop (mkF m 11 #[.val (.int p1), .val (.int p2), .val (.int p3), .val (.long q4), .second, .val (.int p5)] [(.long q4)])) _
      refine XS.iload X0.here hx rfl (hb hby d1_11) rfl ?_
      show Steps p.tables e below (s₁.setTop (mkF m 13 #[.val (.int p1), .val (.int p2), .val (.int p3), .val (.long q4), .second, .val (.int p5)] [(.int p5), (.long q4)])) _
      refine XS.lushr X0.here hx rfl (hb hby d1_13) rfl ?_
      show Steps p.tables e below (s₁.setTop (mkF m 14 #[.val (.int p1), .val (.int p2), .val (.int p3), .val (.long q4), .second, .val (.int p5)] [(.long ((q4.toUInt64 >>> (p5 &&& 0x3f).toInt64.toUInt64).toInt64))])) _
      refine X0.ldc2Long hx hown (mvT hZ (hw _ (List.mem_of_getElem? (i := 1) rfl))) (g := (mkF m 14 #[.val (.int p1), .val (.int p2), .val (.int p3), .val (.long q4), .second, .val (.int p5)] [(.long ((q4.toUInt64 >>> (p5 &&& 0x3f).toInt64.toUInt64).toInt64))])) rfl (hb hby d1_14) _ ?_
      show Steps p.tables e below (s₁.setTop (mkF m 17 #[.val (.int p1), .val (.int p2), .val (.int p3), .val (.long q4), .second, .val (.int p5)] [(.long (255 : Int64)), (.long ((q4.toUInt64 >>> (p5 &&& 0x3f).toInt64.toUInt64).toInt64))])) _
      refine XS.land X0.here hx rfl (hb hby d1_17) rfl ?_
      show Steps p.tables e below (s₁.setTop (mkF m 18 #[.val (.int p1), .val (.int p2), .val (.int p3), .val (.long q4), .second, .val (.int p5)] [(.long (((q4.toUInt64 >>> (p5 &&& 0x3f).toInt64.toUInt64).toInt64) &&& (255 : Int64)))])) _
      refine XS.l2i X0.here hx rfl (hb hby d1_18) rfl ?_
      show Steps p.tables e below (s₁.setTop (mkF m 19 #[.val (.int p1), .val (.int p2), .val (.int p3), .val (.long q4), .second, .val (.int p5)] [(.int (((q4.toUInt64 >>> (p5 &&& 0x3f).toInt64.toUInt64).toInt64) &&& (255 : Int64)).toInt32)])) _
      refine XS.i2c X0.here hx rfl (hb hby d1_19) rfl ?_
      show Steps p.tables e below (s₁.setTop (mkF m 20 #[.val (.int p1), .val (.int p2), .val (.int p3), .val (.long q4), .second, .val (.int p5)] [(.int (((q4.toUInt64 >>> (p5 &&& 0x3f).toInt64.toUInt64).toInt64) &&& (255 : Int64)).toInt32.toUInt32.toUInt16.toUInt32.toInt32)])) _
      exact retN X0 hx (t := .char) Bd.returns (by simp) (hb hby d1_20) hr
    · show QPk Z p1 p2 p3 q4 p5 h0 n0 _ s₁.heap _
      rw [e0]
      exact ⟨by unfold own_pk; rw [if_pos hc5_2], N0, rfl⟩
  · skip
    obtain ⟨fs, hr, hrun, hended, hW, hsame⟩ := X0.leave (v := some (.int (nar .char p3))) (fun h => by rw [Bd.returns] at h; cases h)
    refine ⟨_, _, pre1 _ ?_, hrun, hended, _, _, rfl, ?_, ⟨_, rfl⟩, hW, hsame.mono (by decide) (by decide)⟩
    · skip
      refine XS.ifNo X0.here hx rfl (hb hby d1_5) rfl (XT.i0_eq_f hc5_2) ?_
      show Steps p.tables e below (s₁.setTop (mkF m 8 #[.val (.int p1), .val (.int p2), .val (.int p3), .val (.long q4), .second, .val (.int p5)] [])) _
      refine XS.iloadN X0.here hx rfl (hb hby d1_8) rfl ?_
      show Steps p.tables e below (s₁.setTop (mkF m 9 #[.val (.int p1), .val (.int p2), .val (.int p3), .val (.long q4), .second, .val (.int p5)] [(.int p3)])) _
      exact retN X0 hx (t := .char) Bd.returns (by simp) (hb hby d1_9) hr
    · show QPk Z p1 p2 p3 q4 p5 h0 n0 _ s₁.heap _
      rw [e0]
      exact ⟨by unfold own_pk; rw [if_neg hc5_2], N0, rfl⟩
theorem d8_0 : decode method_3_code 0 = .ok (.iload_n 1, 1) := by decide +kernel
theorem d8_1 : decode method_3_code 1 = .ok (.iload_n 3, 1) := by decide +kernel
theorem d8_2 : decode method_3_code 2 = .ok (.if_icmp .eq 5, 3) := by decide +kernel
theorem d8_5 : decode method_3_code 5 = .ok (.iconst 0, 1) := by decide +kernel
theorem d8_6 : decode method_3_code 6 = .ok (.ireturn, 1) := by decide +kernel
theorem d8_7 : decode method_3_code 7 = .ok (.iconst 1, 1) := by decide +kernel
theorem d8_8 : decode method_3_code 8 = .ok (.istore 4, 2) := by decide +kernel
theorem d8_10 : decode method_3_code 10 = .ok (.iload_n 1, 1) := by decide +kernel
theorem d8_11 : decode method_3_code 11 = .ok (.ifCond .le 24, 3) := by decide +kernel
theorem d8_14 : decode method_3_code 14 = .ok (.iload 4, 2) := by decide +kernel
theorem d8_16 : decode method_3_code 16 = .ok (.ifCond .eq 16, 3) := by decide +kernel
theorem d8_19 : decode method_3_code 19 = .ok (.aload_n 0, 1) := by decide +kernel
theorem d8_20 : decode method_3_code 20 = .ok (.iconst 0, 1) := by decide +kernel
theorem d8_21 : decode method_3_code 21 = .ok (.caload, 1) := by decide +kernel
theorem d8_22 : decode method_3_code 22 = .ok (.aload_n 2, 1) := by decide +kernel
theorem d8_23 : decode method_3_code 23 = .ok (.iconst 0, 1) := by decide +kernel
theorem d8_24 : decode method_3_code 24 = .ok (.caload, 1) := by decide +kernel
theorem d8_25 : decode method_3_code 25 = .ok (.if_icmp .ne 7, 3) := by decide +kernel
theorem d8_28 : decode method_3_code 28 = .ok (.iconst 1, 1) := by decide +kernel
theorem d8_29 : decode method_3_code 29 = .ok (.goto 4, 3) := by decide +kernel
theorem d8_32 : decode method_3_code 32 = .ok (.iconst 0, 1) := by decide +kernel
theorem d8_33 : decode method_3_code 33 = .ok (.istore 4, 2) := by decide +kernel
theorem d8_35 : decode method_3_code 35 = .ok (.iload_n 1, 1) := by decide +kernel
theorem d8_36 : decode method_3_code 36 = .ok (.iconst 1, 1) := by decide +kernel
theorem d8_37 : decode method_3_code 37 = .ok (.if_icmp .le 24, 3) := by decide +kernel
theorem d8_40 : decode method_3_code 40 = .ok (.iload 4, 2) := by decide +kernel
theorem d8_42 : decode method_3_code 42 = .ok (.ifCond .eq 16, 3) := by decide +kernel
theorem d8_45 : decode method_3_code 45 = .ok (.aload_n 0, 1) := by decide +kernel
theorem d8_46 : decode method_3_code 46 = .ok (.iconst 1, 1) := by decide +kernel
theorem d8_47 : decode method_3_code 47 = .ok (.caload, 1) := by decide +kernel
theorem d8_48 : decode method_3_code 48 = .ok (.aload_n 2, 1) := by decide +kernel
theorem d8_49 : decode method_3_code 49 = .ok (.iconst 1, 1) := by decide +kernel
theorem d8_50 : decode method_3_code 50 = .ok (.caload, 1) := by decide +kernel
theorem d8_51 : decode method_3_code 51 = .ok (.if_icmp .ne 7, 3) := by decide +kernel
theorem d8_54 : decode method_3_code 54 = .ok (.iconst 1, 1) := by decide +kernel
theorem d8_55 : decode method_3_code 55 = .ok (.goto 4, 3) := by decide +kernel
theorem d8_58 : decode method_3_code 58 = .ok (.iconst 0, 1) := by decide +kernel
theorem d8_59 : decode method_3_code 59 = .ok (.istore 4, 2) := by decide +kernel
theorem d8_61 : decode method_3_code 61 = .ok (.iload_n 1, 1) := by decide +kernel
theorem d8_62 : decode method_3_code 62 = .ok (.iconst 2, 1) := by decide +kernel
theorem d8_63 : decode method_3_code 63 = .ok (.if_icmp .le 24, 3) := by decide +kernel
theorem d8_66 : decode method_3_code 66 = .ok (.iload 4, 2) := by decide +kernel
theorem d8_68 : decode method_3_code 68 = .ok (.ifCond .eq 16, 3) := by decide +kernel
theorem d8_71 : decode method_3_code 71 = .ok (.aload_n 0, 1) := by decide +kernel
theorem d8_72 : decode method_3_code 72 = .ok (.iconst 2, 1) := by decide +kernel
theorem d8_73 : decode method_3_code 73 = .ok (.caload, 1) := by decide +kernel
theorem d8_74 : decode method_3_code 74 = .ok (.aload_n 2, 1) := by decide +kernel
theorem d8_75 : decode method_3_code 75 = .ok (.iconst 2, 1) := by decide +kernel
theorem d8_76 : decode method_3_code 76 = .ok (.caload, 1) := by decide +kernel
theorem d8_77 : decode method_3_code 77 = .ok (.if_icmp .ne 7, 3) := by decide +kernel
theorem d8_80 : decode method_3_code 80 = .ok (.iconst 1, 1) := by decide +kernel
theorem d8_81 : decode method_3_code 81 = .ok (.goto 4, 3) := by decide +kernel
theorem d8_84 : decode method_3_code 84 = .ok (.iconst 0, 1) := by decide +kernel
theorem d8_85 : decode method_3_code 85 = .ok (.istore 4, 2) := by decide +kernel
theorem d8_87 : decode method_3_code 87 = .ok (.iload 4, 2) := by decide +kernel
theorem d8_89 : decode method_3_code 89 = .ok (.ireturn, 1) := by decide +kernel
theorem pn_8 : plainName "com/example/postie/postie/config/ListenEqualsPinLaw" = true := by first | (simp [plainName, overriddenIn]; done) | decide +kernel
theorem ef_rmSC (m : MethodId) (x0 : Addr) (x1 : Int32) (x2 : Addr) (x3 : Int32) : entryFrame m #[(.ref x0), (.int x1), (.ref x2), (.int x3)] 5 = mkF m 0 #[.val (.ref x0), .val (.int x1), .val (.ref x2), .val (.int x3), .unset] [] := by first | (simp [entryFrame, mkF, argsToLocals, Value.category]; done) | rfl
def QSC (Z : State) (b1 : Addr) (k1 : ClassId) (b2 : Addr) (k2 : ClassId) (l1 : Int32) (l2 : Int32) (x0 : Int32) (x1 : Int32) (x2 : Int32) (y0 : Int32) (y1 : Int32) (y2 : Int32) (h0 : Heap) (n0 : Nat) (v : Option Value) (h : Heap) (L : List Loc) : Prop := v = some (.int (bI ((l1 = l2) ∧ ((((2 : Int32) < l1) ∧ (((((1 : Int32) < l1) ∧ ((((0 : Int32) < l1) → (x0 = y0)) ∧ (x1 = y1))) ∨ (¬ ((1 : Int32) < l1) ∧ (((0 : Int32) < l1) → (x0 = y0)))) ∧ (x2 = y2))) ∨ (¬ ((2 : Int32) < l1) ∧ ((((1 : Int32) < l1) ∧ ((((0 : Int32) < l1) → (x0 = y0)) ∧ (x1 = y1))) ∨ (¬ ((1 : Int32) < l1) ∧ (((0 : Int32) < l1) → (x0 = y0))))))))) ∧ Fr n0 L ∧ h = h0
set_option maxRecDepth 65536 in
set_option maxHeartbeats 40000000 in
theorem rmSC (l : Launch) (Z : State) (a0 : Array Value) (hw : ∀ d ∈ tables_1, d.before a0 Z = true) (ws : List Jvm.Cond) (b1 : Addr) (k1 : ClassId) (b2 : Addr) (k2 : ClassId) (l1 : Int32) (l2 : Int32) (x0 : Int32) (x1 : Int32) (x2 : Int32) (y0 : Int32) (y1 : Int32) (y2 : Int32) (h0 : Heap) (n0 : Nat) (Z0 : n0 ≤ h0.size) (V_1 : Arv Z h0 b1 k1 .char (3 : Int32) [(.int x0), (.int x1), (.int x2)] (.int (0 : Int32))) (V_2 : Arv Z h0 b2 k2 .char (3 : Int32) [(.int y0), (.int y1), (.int y2)] (.int (0 : Int32))) :
    MetFree l (⟨"com/example/postie/postie/config/ListenEqualsPinLaw", "sameChars", "([CI[CI)Z"⟩ : MethodName) (head1 (Jvm.Cond.code (⟨"com/example/postie/postie/config/ListenEqualsPinLaw", "sameChars", "([CI[CI)Z"⟩ : MethodName) method_3_code 5 (some .boolean) :: ws) ({ frames := 0, cells := 0, slots := 0, locals := 0 } : Room)) (fun ar UU => ar = #[(.ref b1), (.int l1), (.ref b2), (.int l2)] ∧ Z.Warmed39 UU.vm ∧ UU.heap = h0) (fun _ _ _ _ _ => True) (fun _ UU oo UU' => ∃ vv LL, oo = .returned vv ∧ QSC Z b1 k1 b2 k2 l1 l2 x0 x1 x2 y0 y1 y2 h0 n0 vv UU'.heap LL ∧ FrameEnd UU oo UU' LL ({ frames := 0, cells := 0, slots := 0, locals := 0 } : Room).cells ({ frames := 0, cells := 0, slots := 0, locals := 0 } : Room).slots) := by
  refine MetFree.of_bodySF (plainFor_of_name pn_8) hisR ?_
  intro p e s m args below meth c s₁ Bd hml0 hP hK
  obtain ⟨rfl, hZ, hh⟩ := hP
  have hx := Bd.exec
  have hby := Bd.bytes
  have hml : c.maxLocals = 5 := hml0
  have hown : s.vm.findClass "com/example/postie/postie/config/ListenEqualsPinLaw" = some m.cls := findClass_of_methodNamed Bd.named
  have hnm := (name_of_methodNamed Bd.named Bd.method).1
  have X0 : Stand p l e ({ frames := 0, cells := 0, slots := 0, locals := 0 } : Room) s m #[(.ref b1), (.int l1), (.ref b2), (.int l2)] below meth c s₁ [] 0 0 := Stand.of_body Bd
  have e0 : s₁.heap = h0 := by rw [← hh, Bd.state]; rfl
  have N0 := Fr.nil n0
  have KC0 : Keep h0 h0 [] := Keep.refl h0 []
  have pre0 : ∀ tgt, Steps p.tables e below (s₁.setTop (mkF m 0 #[.val (.ref b1), .val (.int l1), .val (.ref b2), .val (.int l2), .unset] [])) tgt → Steps p.tables e below (s₁.setTop (entryFrame m #[(.ref b1), (.int l1), (.ref b2), (.int l2)] 5)) tgt := fun tgt kk => castTop (ef_rmSC m (b1) (l1) (b2) (l2)) kk
  have pre1 : ∀ tgt, Steps p.tables e below (s₁.setTop (mkF m 2 #[.val (.ref b1), .val (.int l1), .val (.ref b2), .val (.int l2), .unset] [(.int l2), (.int l1)])) tgt → Steps p.tables e below (s₁.setTop (entryFrame m #[(.ref b1), (.int l1), (.ref b2), (.int l2)] 5)) tgt := by
    intro tgt kk
    refine pre0 tgt ?_
    refine XS.iloadN X0.here hx rfl (hb hby d8_0) rfl ?_
    show Steps p.tables e below (s₁.setTop (mkF m 1 #[.val (.ref b1), .val (.int l1), .val (.ref b2), .val (.int l2), .unset] [(.int l1)])) _
    refine XS.iloadN X0.here hx rfl (hb hby d8_1) rfl ?_
    show Steps p.tables e below (s₁.setTop (mkF m 2 #[.val (.ref b1), .val (.int l1), .val (.ref b2), .val (.int l2), .unset] [(.int l2), (.int l1)])) _
    exact kk
  by_cases hc2_2 : l1 = l2
  · skip
    have pre3 : ∀ tgt, Steps p.tables e below (s₁.setTop (mkF m 11 #[.val (.ref b1), .val (.int l1), .val (.ref b2), .val (.int l2), .val (.int (1 : Int32))] [(.int l1)])) tgt → Steps p.tables e below (s₁.setTop (entryFrame m #[(.ref b1), (.int l1), (.ref b2), (.int l2)] 5)) tgt := by
      intro tgt kk
      refine pre1 tgt ?_
      refine XS.icmpYes X0.here hx rfl (pc0 := 2) (pc' := 7) rfl (hb hby d8_2) rfl (XT.ii_eq_t hc2_2) (by decide) (by decide) ?_
      show Steps p.tables e below (s₁.setTop (mkF m 7 #[.val (.ref b1), .val (.int l1), .val (.ref b2), .val (.int l2), .unset] [])) _
      refine XS.iconst X0.here hx rfl (hb hby d8_7) ?_
      show Steps p.tables e below (s₁.setTop (mkF m 8 #[.val (.ref b1), .val (.int l1), .val (.ref b2), .val (.int l2), .unset] [(.int (1 : Int32))])) _
      refine XS.istore X0.here hx rfl (hb hby d8_8) rfl (l' := #[.val (.ref b1), .val (.int l1), .val (.ref b2), .val (.int l2), .val (.int (1 : Int32))]) rfl ?_
      show Steps p.tables e below (s₁.setTop (mkF m 10 #[.val (.ref b1), .val (.int l1), .val (.ref b2), .val (.int l2), .val (.int (1 : Int32))] [])) _
      refine XS.iloadN X0.here hx rfl (hb hby d8_10) rfl ?_
      show Steps p.tables e below (s₁.setTop (mkF m 11 #[.val (.ref b1), .val (.int l1), .val (.ref b2), .val (.int l2), .val (.int (1 : Int32))] [(.int l1)])) _
      exact kk
    obtain ⟨T13, lo13, X13, N13, e13, pre13⟩ : ∃ (T' : State) (lo : List Loc), Stand p l e ({ frames := 0, cells := 0, slots := 0, locals := 0 } : Room) s m #[(.ref b1), (.int l1), (.ref b2), (.int l2)] below meth c T' lo 0 0 ∧ Fr n0 lo ∧ T'.heap = h0 ∧ ∀ tgt, Steps p.tables e below (T'.setTop (mkF m 35 #[.val (.ref b1), .val (.int l1), .val (.ref b2), .val (.int l2), .val (.int (bI (((0 : Int32) < l1) → (x0 = y0))))] [])) tgt → Steps p.tables e below (s₁.setTop (entryFrame m #[(.ref b1), (.int l1), (.ref b2), (.int l2)] 5)) tgt := by
      by_cases hc11_4 : (0 : Int32) < l1
      · skip
        have pre5 : ∀ tgt, Steps p.tables e below (s₁.setTop (mkF m 21 #[.val (.ref b1), .val (.int l1), .val (.ref b2), .val (.int l2), .val (.int (1 : Int32))] [(.int (0 : Int32)), (.ref b1)])) tgt → Steps p.tables e below (s₁.setTop (entryFrame m #[(.ref b1), (.int l1), (.ref b2), (.int l2)] 5)) tgt := by
          intro tgt kk
          refine pre3 tgt ?_
          refine XS.ifNo X0.here hx rfl (hb hby d8_11) rfl (XT.i0_le_f hc11_4) ?_
          show Steps p.tables e below (s₁.setTop (mkF m 14 #[.val (.ref b1), .val (.int l1), .val (.ref b2), .val (.int l2), .val (.int (1 : Int32))] [])) _
          refine XS.iload X0.here hx rfl (hb hby d8_14) rfl ?_
          show Steps p.tables e below (s₁.setTop (mkF m 16 #[.val (.ref b1), .val (.int l1), .val (.ref b2), .val (.int l2), .val (.int (1 : Int32))] [(.int (1 : Int32))])) _
          refine XS.ifNo X0.here hx rfl (hb hby d8_16) rfl (XT.i0_eq_f (by decide)) ?_
          show Steps p.tables e below (s₁.setTop (mkF m 19 #[.val (.ref b1), .val (.int l1), .val (.ref b2), .val (.int l2), .val (.int (1 : Int32))] [])) _
          refine XS.aloadN X0.here hx rfl (hb hby d8_19) rfl rfl ?_
          show Steps p.tables e below (s₁.setTop (mkF m 20 #[.val (.ref b1), .val (.int l1), .val (.ref b2), .val (.int l2), .val (.int (1 : Int32))] [(.ref b1)])) _
          refine XS.iconst X0.here hx rfl (hb hby d8_20) ?_
          show Steps p.tables e below (s₁.setTop (mkF m 21 #[.val (.ref b1), .val (.int l1), .val (.ref b2), .val (.int l2), .val (.int (1 : Int32))] [(.int (0 : Int32)), (.ref b1)])) _
          exact kk
        obtain ⟨cl6, Ar6, aq6, aS6, aN6, aH6, aG6⟩ := id V_1
        have hin7 : ¬ ((0 : Int32) < 0 ∨ cl6.slots.size ≤ ((0 : Int32)).toNatClampNeg) := inb_of aS6 ⟨by decide, by decide⟩
        have hat7 : cl6.slots[((0 : Int32)).toNatClampNeg]? = some (.int x0) := Has.at aH6 hin7 rfl
        have pre8 : ∀ tgt, Steps p.tables e below (s₁.setTop (mkF m 24 #[.val (.ref b1), .val (.int l1), .val (.ref b2), .val (.int l2), .val (.int (1 : Int32))] [(.int (0 : Int32)), (.ref b2), (.int x0)])) tgt → Steps p.tables e below (s₁.setTop (entryFrame m #[(.ref b1), (.int l1), (.ref b2), (.int l2)] 5)) tgt := by
          intro tgt kk
          refine pre5 tgt ?_
          refine X0.caload hx (j := (0 : Int32)) (v := (.int x0)) (by rw [e0]; exact Ar6.1) (State.isArrayOf_alike hZ.alike Ar6.2.1) Ar6.2.2 hin7 hat7 (g := (mkF m 21 #[.val (.ref b1), .val (.int l1), .val (.ref b2), .val (.int l2), .val (.int (1 : Int32))] [(.int (0 : Int32)), (.ref b1)])) rfl rfl (hb hby d8_21) _ ?_
          show Steps p.tables e below (s₁.setTop (mkF m 22 #[.val (.ref b1), .val (.int l1), .val (.ref b2), .val (.int l2), .val (.int (1 : Int32))] [(.int x0)])) _
          refine XS.aloadN X0.here hx rfl (hb hby d8_22) rfl rfl ?_
          show Steps p.tables e below (s₁.setTop (mkF m 23 #[.val (.ref b1), .val (.int l1), .val (.ref b2), .val (.int l2), .val (.int (1 : Int32))] [(.ref b2), (.int x0)])) _
          refine XS.iconst X0.here hx rfl (hb hby d8_23) ?_
          show Steps p.tables e below (s₁.setTop (mkF m 24 #[.val (.ref b1), .val (.int l1), .val (.ref b2), .val (.int l2), .val (.int (1 : Int32))] [(.int (0 : Int32)), (.ref b2), (.int x0)])) _
          exact kk
        obtain ⟨cl9, Ar9, aq9, aS9, aN9, aH9, aG9⟩ := id V_2
        have hin10 : ¬ ((0 : Int32) < 0 ∨ cl9.slots.size ≤ ((0 : Int32)).toNatClampNeg) := inb_of aS9 ⟨by decide, by decide⟩
        have hat10 : cl9.slots[((0 : Int32)).toNatClampNeg]? = some (.int y0) := Has.at aH9 hin10 rfl
        have pre11 : ∀ tgt, Steps p.tables e below (s₁.setTop (mkF m 25 #[.val (.ref b1), .val (.int l1), .val (.ref b2), .val (.int l2), .val (.int (1 : Int32))] [(.int y0), (.int x0)])) tgt → Steps p.tables e below (s₁.setTop (entryFrame m #[(.ref b1), (.int l1), (.ref b2), (.int l2)] 5)) tgt := by
          intro tgt kk
          refine pre8 tgt ?_
          refine X0.caload hx (j := (0 : Int32)) (v := (.int y0)) (by rw [e0]; exact Ar9.1) (State.isArrayOf_alike hZ.alike Ar9.2.1) Ar9.2.2 hin10 hat10 (g := (mkF m 24 #[.val (.ref b1), .val (.int l1), .val (.ref b2), .val (.int l2), .val (.int (1 : Int32))] [(.int (0 : Int32)), (.ref b2), (.int x0)])) rfl rfl (hb hby d8_24) _ ?_
          show Steps p.tables e below (s₁.setTop (mkF m 25 #[.val (.ref b1), .val (.int l1), .val (.ref b2), .val (.int l2), .val (.int (1 : Int32))] [(.int y0), (.int x0)])) _
          exact kk
        by_cases hc25_12 : x0 = y0
        · skip
          refine ⟨s₁, _, X0, N0, e0, fun tgt kk => ?_⟩
          have kq14 : ((.int (bI (((0 : Int32) < l1) → (x0 = y0)))) : Value) = (.int (1 : Int32)) := ((congrArg Value.int (bI_iff (imp_iff_h hc11_4))).trans (congrArg Value.int (bI_t hc25_12)))
          rw [kq14] at kk
          refine pre11 tgt ?_
          refine XS.icmpNo X0.here hx rfl (hb hby d8_25) rfl (XT.ii_ne_f hc25_12) ?_
          show Steps p.tables e below (s₁.setTop (mkF m 28 #[.val (.ref b1), .val (.int l1), .val (.ref b2), .val (.int l2), .val (.int (1 : Int32))] [])) _
          refine XS.iconst X0.here hx rfl (hb hby d8_28) ?_
          show Steps p.tables e below (s₁.setTop (mkF m 29 #[.val (.ref b1), .val (.int l1), .val (.ref b2), .val (.int l2), .val (.int (1 : Int32))] [(.int (1 : Int32))])) _
          refine XS.goto X0.here hx rfl (pc0 := 29) (pc' := 33) rfl (hb hby d8_29) (by decide) (by decide) ?_
          show Steps p.tables e below (s₁.setTop (mkF m 33 #[.val (.ref b1), .val (.int l1), .val (.ref b2), .val (.int l2), .val (.int (1 : Int32))] [(.int (1 : Int32))])) _
          refine XS.istore X0.here hx rfl (hb hby d8_33) rfl (l' := #[.val (.ref b1), .val (.int l1), .val (.ref b2), .val (.int l2), .val (.int (1 : Int32))]) rfl ?_
          show Steps p.tables e below (s₁.setTop (mkF m 35 #[.val (.ref b1), .val (.int l1), .val (.ref b2), .val (.int l2), .val (.int (1 : Int32))] [])) _
          exact kk
        · skip
          refine ⟨s₁, _, X0, N0, e0, fun tgt kk => ?_⟩
          have kq15 : ((.int (bI (((0 : Int32) < l1) → (x0 = y0)))) : Value) = (.int (0 : Int32)) := ((congrArg Value.int (bI_iff (imp_iff_h hc11_4))).trans (congrArg Value.int (bI_f hc25_12)))
          rw [kq15] at kk
          refine pre11 tgt ?_
          refine XS.icmpYes X0.here hx rfl (pc0 := 25) (pc' := 32) rfl (hb hby d8_25) rfl (XT.ii_ne_t hc25_12) (by decide) (by decide) ?_
          show Steps p.tables e below (s₁.setTop (mkF m 32 #[.val (.ref b1), .val (.int l1), .val (.ref b2), .val (.int l2), .val (.int (1 : Int32))] [])) _
          refine XS.iconst X0.here hx rfl (hb hby d8_32) ?_
          show Steps p.tables e below (s₁.setTop (mkF m 33 #[.val (.ref b1), .val (.int l1), .val (.ref b2), .val (.int l2), .val (.int (1 : Int32))] [(.int (0 : Int32))])) _
          refine XS.istore X0.here hx rfl (hb hby d8_33) rfl (l' := #[.val (.ref b1), .val (.int l1), .val (.ref b2), .val (.int l2), .val (.int (0 : Int32))]) rfl ?_
          show Steps p.tables e below (s₁.setTop (mkF m 35 #[.val (.ref b1), .val (.int l1), .val (.ref b2), .val (.int l2), .val (.int (0 : Int32))] [])) _
          exact kk
      · skip
        refine ⟨s₁, _, X0, N0, e0, fun tgt kk => ?_⟩
        have kq16 : ((.int (bI (((0 : Int32) < l1) → (x0 = y0)))) : Value) = (.int (1 : Int32)) := (congrArg Value.int (bI_t (fun q => absurd q hc11_4)))
        rw [kq16] at kk
        refine pre3 tgt ?_
        refine XS.ifYes X0.here hx rfl (pc0 := 11) (pc' := 35) rfl (hb hby d8_11) rfl (XT.i0_le_t hc11_4) (by decide) (by decide) ?_
        show Steps p.tables e below (s₁.setTop (mkF m 35 #[.val (.ref b1), .val (.int l1), .val (.ref b2), .val (.int l2), .val (.int (1 : Int32))] [])) _
        exact kk
    have pre17 : ∀ tgt, Steps p.tables e below (T13.setTop (mkF m 37 #[.val (.ref b1), .val (.int l1), .val (.ref b2), .val (.int l2), .val (.int (bI (((0 : Int32) < l1) → (x0 = y0))))] [(.int (1 : Int32)), (.int l1)])) tgt → Steps p.tables e below (s₁.setTop (entryFrame m #[(.ref b1), (.int l1), (.ref b2), (.int l2)] 5)) tgt := by
      intro tgt kk
      refine pre13 tgt ?_
      refine XS.iloadN X13.here hx rfl (hb hby d8_35) rfl ?_
      show Steps p.tables e below (T13.setTop (mkF m 36 #[.val (.ref b1), .val (.int l1), .val (.ref b2), .val (.int l2), .val (.int (bI (((0 : Int32) < l1) → (x0 = y0))))] [(.int l1)])) _
      refine XS.iconst X13.here hx rfl (hb hby d8_36) ?_
      show Steps p.tables e below (T13.setTop (mkF m 37 #[.val (.ref b1), .val (.int l1), .val (.ref b2), .val (.int l2), .val (.int (bI (((0 : Int32) < l1) → (x0 = y0))))] [(.int (1 : Int32)), (.int l1)])) _
      exact kk
    obtain ⟨T29, lo29, X29, N29, e29, pre29⟩ : ∃ (T' : State) (lo : List Loc), Stand p l e ({ frames := 0, cells := 0, slots := 0, locals := 0 } : Room) s m #[(.ref b1), (.int l1), (.ref b2), (.int l2)] below meth c T' lo 0 0 ∧ Fr n0 lo ∧ T'.heap = h0 ∧ ∀ tgt, Steps p.tables e below (T'.setTop (mkF m 61 #[.val (.ref b1), .val (.int l1), .val (.ref b2), .val (.int l2), .val (.int (bI ((((1 : Int32) < l1) ∧ ((((0 : Int32) < l1) → (x0 = y0)) ∧ (x1 = y1))) ∨ (¬ ((1 : Int32) < l1) ∧ (((0 : Int32) < l1) → (x0 = y0))))))] [])) tgt → Steps p.tables e below (s₁.setTop (entryFrame m #[(.ref b1), (.int l1), (.ref b2), (.int l2)] 5)) tgt := by
      by_cases hc37_18 : (1 : Int32) < l1
      · skip
        have pre19 : ∀ tgt, Steps p.tables e below (T13.setTop (mkF m 42 #[.val (.ref b1), .val (.int l1), .val (.ref b2), .val (.int l2), .val (.int (bI (((0 : Int32) < l1) → (x0 = y0))))] [(.int (bI (((0 : Int32) < l1) → (x0 = y0))))])) tgt → Steps p.tables e below (s₁.setTop (entryFrame m #[(.ref b1), (.int l1), (.ref b2), (.int l2)] 5)) tgt := by
          intro tgt kk
          refine pre17 tgt ?_
          refine XS.icmpNo X13.here hx rfl (hb hby d8_37) rfl (XT.ii_le_f hc37_18) ?_
          show Steps p.tables e below (T13.setTop (mkF m 40 #[.val (.ref b1), .val (.int l1), .val (.ref b2), .val (.int l2), .val (.int (bI (((0 : Int32) < l1) → (x0 = y0))))] [])) _
          refine XS.iload X13.here hx rfl (hb hby d8_40) rfl ?_
          show Steps p.tables e below (T13.setTop (mkF m 42 #[.val (.ref b1), .val (.int l1), .val (.ref b2), .val (.int l2), .val (.int (bI (((0 : Int32) < l1) → (x0 = y0))))] [(.int (bI (((0 : Int32) < l1) → (x0 = y0))))])) _
          exact kk
        by_cases hc42_20 : ((0 : Int32) < l1) → (x0 = y0)
        · skip
          have pre21 : ∀ tgt, Steps p.tables e below (T13.setTop (mkF m 47 #[.val (.ref b1), .val (.int l1), .val (.ref b2), .val (.int l2), .val (.int (bI (((0 : Int32) < l1) → (x0 = y0))))] [(.int (1 : Int32)), (.ref b1)])) tgt → Steps p.tables e below (s₁.setTop (entryFrame m #[(.ref b1), (.int l1), (.ref b2), (.int l2)] 5)) tgt := by
            intro tgt kk
            refine pre19 tgt ?_
            refine XS.ifNo X13.here hx rfl (hb hby d8_42) rfl (bB_eq_f hc42_20) ?_
            show Steps p.tables e below (T13.setTop (mkF m 45 #[.val (.ref b1), .val (.int l1), .val (.ref b2), .val (.int l2), .val (.int (bI (((0 : Int32) < l1) → (x0 = y0))))] [])) _
            refine XS.aloadN X13.here hx rfl (hb hby d8_45) rfl rfl ?_
            show Steps p.tables e below (T13.setTop (mkF m 46 #[.val (.ref b1), .val (.int l1), .val (.ref b2), .val (.int l2), .val (.int (bI (((0 : Int32) < l1) → (x0 = y0))))] [(.ref b1)])) _
            refine XS.iconst X13.here hx rfl (hb hby d8_46) ?_
            show Steps p.tables e below (T13.setTop (mkF m 47 #[.val (.ref b1), .val (.int l1), .val (.ref b2), .val (.int l2), .val (.int (bI (((0 : Int32) < l1) → (x0 = y0))))] [(.int (1 : Int32)), (.ref b1)])) _
            exact kk
          obtain ⟨cl22, Ar22, aq22, aS22, aN22, aH22, aG22⟩ := id V_1
          have hin23 : ¬ ((1 : Int32) < 0 ∨ cl22.slots.size ≤ ((1 : Int32)).toNatClampNeg) := inb_of aS22 ⟨by decide, by decide⟩
          have hat23 : cl22.slots[((1 : Int32)).toNatClampNeg]? = some (.int x1) := Has.at aH22 hin23 rfl
          have pre24 : ∀ tgt, Steps p.tables e below (T13.setTop (mkF m 50 #[.val (.ref b1), .val (.int l1), .val (.ref b2), .val (.int l2), .val (.int (bI (((0 : Int32) < l1) → (x0 = y0))))] [(.int (1 : Int32)), (.ref b2), (.int x1)])) tgt → Steps p.tables e below (s₁.setTop (entryFrame m #[(.ref b1), (.int l1), (.ref b2), (.int l2)] 5)) tgt := by
            intro tgt kk
            refine pre21 tgt ?_
            refine X13.caload hx (j := (1 : Int32)) (v := (.int x1)) (by rw [e13]; exact Ar22.1) (State.isArrayOf_alike hZ.alike Ar22.2.1) Ar22.2.2 hin23 hat23 (g := (mkF m 47 #[.val (.ref b1), .val (.int l1), .val (.ref b2), .val (.int l2), .val (.int (bI (((0 : Int32) < l1) → (x0 = y0))))] [(.int (1 : Int32)), (.ref b1)])) rfl rfl (hb hby d8_47) _ ?_
            show Steps p.tables e below (T13.setTop (mkF m 48 #[.val (.ref b1), .val (.int l1), .val (.ref b2), .val (.int l2), .val (.int (bI (((0 : Int32) < l1) → (x0 = y0))))] [(.int x1)])) _
            refine XS.aloadN X13.here hx rfl (hb hby d8_48) rfl rfl ?_
            show Steps p.tables e below (T13.setTop (mkF m 49 #[.val (.ref b1), .val (.int l1), .val (.ref b2), .val (.int l2), .val (.int (bI (((0 : Int32) < l1) → (x0 = y0))))] [(.ref b2), (.int x1)])) _
            refine XS.iconst X13.here hx rfl (hb hby d8_49) ?_
            show Steps p.tables e below (T13.setTop (mkF m 50 #[.val (.ref b1), .val (.int l1), .val (.ref b2), .val (.int l2), .val (.int (bI (((0 : Int32) < l1) → (x0 = y0))))] [(.int (1 : Int32)), (.ref b2), (.int x1)])) _
            exact kk
          obtain ⟨cl25, Ar25, aq25, aS25, aN25, aH25, aG25⟩ := id V_2
          have hin26 : ¬ ((1 : Int32) < 0 ∨ cl25.slots.size ≤ ((1 : Int32)).toNatClampNeg) := inb_of aS25 ⟨by decide, by decide⟩
          have hat26 : cl25.slots[((1 : Int32)).toNatClampNeg]? = some (.int y1) := Has.at aH25 hin26 rfl
          have pre27 : ∀ tgt, Steps p.tables e below (T13.setTop (mkF m 51 #[.val (.ref b1), .val (.int l1), .val (.ref b2), .val (.int l2), .val (.int (bI (((0 : Int32) < l1) → (x0 = y0))))] [(.int y1), (.int x1)])) tgt → Steps p.tables e below (s₁.setTop (entryFrame m #[(.ref b1), (.int l1), (.ref b2), (.int l2)] 5)) tgt := by
            intro tgt kk
            refine pre24 tgt ?_
            refine X13.caload hx (j := (1 : Int32)) (v := (.int y1)) (by rw [e13]; exact Ar25.1) (State.isArrayOf_alike hZ.alike Ar25.2.1) Ar25.2.2 hin26 hat26 (g := (mkF m 50 #[.val (.ref b1), .val (.int l1), .val (.ref b2), .val (.int l2), .val (.int (bI (((0 : Int32) < l1) → (x0 = y0))))] [(.int (1 : Int32)), (.ref b2), (.int x1)])) rfl rfl (hb hby d8_50) _ ?_
            show Steps p.tables e below (T13.setTop (mkF m 51 #[.val (.ref b1), .val (.int l1), .val (.ref b2), .val (.int l2), .val (.int (bI (((0 : Int32) < l1) → (x0 = y0))))] [(.int y1), (.int x1)])) _
            exact kk
          by_cases hc51_28 : x1 = y1
          · skip
            refine ⟨T13, _, X13, N13, e13, fun tgt kk => ?_⟩
            have kq30 : ((.int (bI ((((1 : Int32) < l1) ∧ ((((0 : Int32) < l1) → (x0 = y0)) ∧ (x1 = y1))) ∨ (¬ ((1 : Int32) < l1) ∧ (((0 : Int32) < l1) → (x0 = y0)))))) : Value) = (.int (1 : Int32)) := ((congrArg Value.int (bI_iff (sel_t hc37_18))).trans ((congrArg Value.int (bI_iff (and_iff_right hc42_20))).trans (congrArg Value.int (bI_t hc51_28))))
            rw [kq30] at kk
            refine pre27 tgt ?_
            refine XS.icmpNo X13.here hx rfl (hb hby d8_51) rfl (XT.ii_ne_f hc51_28) ?_
            show Steps p.tables e below (T13.setTop (mkF m 54 #[.val (.ref b1), .val (.int l1), .val (.ref b2), .val (.int l2), .val (.int (bI (((0 : Int32) < l1) → (x0 = y0))))] [])) _
            refine XS.iconst X13.here hx rfl (hb hby d8_54) ?_
            show Steps p.tables e below (T13.setTop (mkF m 55 #[.val (.ref b1), .val (.int l1), .val (.ref b2), .val (.int l2), .val (.int (bI (((0 : Int32) < l1) → (x0 = y0))))] [(.int (1 : Int32))])) _
            refine XS.goto X13.here hx rfl (pc0 := 55) (pc' := 59) rfl (hb hby d8_55) (by decide) (by decide) ?_
            show Steps p.tables e below (T13.setTop (mkF m 59 #[.val (.ref b1), .val (.int l1), .val (.ref b2), .val (.int l2), .val (.int (bI (((0 : Int32) < l1) → (x0 = y0))))] [(.int (1 : Int32))])) _
            refine XS.istore X13.here hx rfl (hb hby d8_59) rfl (l' := #[.val (.ref b1), .val (.int l1), .val (.ref b2), .val (.int l2), .val (.int (1 : Int32))]) rfl ?_
            show Steps p.tables e below (T13.setTop (mkF m 61 #[.val (.ref b1), .val (.int l1), .val (.ref b2), .val (.int l2), .val (.int (1 : Int32))] [])) _
            exact kk
          · skip
            refine ⟨T13, _, X13, N13, e13, fun tgt kk => ?_⟩
            have kq31 : ((.int (bI ((((1 : Int32) < l1) ∧ ((((0 : Int32) < l1) → (x0 = y0)) ∧ (x1 = y1))) ∨ (¬ ((1 : Int32) < l1) ∧ (((0 : Int32) < l1) → (x0 = y0)))))) : Value) = (.int (0 : Int32)) := ((congrArg Value.int (bI_iff (sel_t hc37_18))).trans ((congrArg Value.int (bI_iff (and_iff_right hc42_20))).trans (congrArg Value.int (bI_f hc51_28))))
            rw [kq31] at kk
            refine pre27 tgt ?_
            refine XS.icmpYes X13.here hx rfl (pc0 := 51) (pc' := 58) rfl (hb hby d8_51) rfl (XT.ii_ne_t hc51_28) (by decide) (by decide) ?_
            show Steps p.tables e below (T13.setTop (mkF m 58 #[.val (.ref b1), .val (.int l1), .val (.ref b2), .val (.int l2), .val (.int (bI (((0 : Int32) < l1) → (x0 = y0))))] [])) _
            refine XS.iconst X13.here hx rfl (hb hby d8_58) ?_
            show Steps p.tables e below (T13.setTop (mkF m 59 #[.val (.ref b1), .val (.int l1), .val (.ref b2), .val (.int l2), .val (.int (bI (((0 : Int32) < l1) → (x0 = y0))))] [(.int (0 : Int32))])) _
            refine XS.istore X13.here hx rfl (hb hby d8_59) rfl (l' := #[.val (.ref b1), .val (.int l1), .val (.ref b2), .val (.int l2), .val (.int (0 : Int32))]) rfl ?_
            show Steps p.tables e below (T13.setTop (mkF m 61 #[.val (.ref b1), .val (.int l1), .val (.ref b2), .val (.int l2), .val (.int (0 : Int32))] [])) _
            exact kk
        · skip
          refine ⟨T13, _, X13, N13, e13, fun tgt kk => ?_⟩
          have kq32 : ((.int (bI ((((1 : Int32) < l1) ∧ ((((0 : Int32) < l1) → (x0 = y0)) ∧ (x1 = y1))) ∨ (¬ ((1 : Int32) < l1) ∧ (((0 : Int32) < l1) → (x0 = y0)))))) : Value) = (.int (0 : Int32)) := ((congrArg Value.int (bI_iff (sel_t hc37_18))).trans (congrArg Value.int (bI_f (fun q => hc42_20 q.1))))
          rw [kq32] at kk
          refine pre19 tgt ?_
          refine XS.ifYes X13.here hx rfl (pc0 := 42) (pc' := 58) rfl (hb hby d8_42) rfl (bB_eq_t hc42_20) (by decide) (by decide) ?_
          show Steps p.tables e below (T13.setTop (mkF m 58 #[.val (.ref b1), .val (.int l1), .val (.ref b2), .val (.int l2), .val (.int (bI (((0 : Int32) < l1) → (x0 = y0))))] [])) _
          refine XS.iconst X13.here hx rfl (hb hby d8_58) ?_
          show Steps p.tables e below (T13.setTop (mkF m 59 #[.val (.ref b1), .val (.int l1), .val (.ref b2), .val (.int l2), .val (.int (bI (((0 : Int32) < l1) → (x0 = y0))))] [(.int (0 : Int32))])) _
          refine XS.istore X13.here hx rfl (hb hby d8_59) rfl (l' := #[.val (.ref b1), .val (.int l1), .val (.ref b2), .val (.int l2), .val (.int (0 : Int32))]) rfl ?_
          show Steps p.tables e below (T13.setTop (mkF m 61 #[.val (.ref b1), .val (.int l1), .val (.ref b2), .val (.int l2), .val (.int (0 : Int32))] [])) _
          exact kk
      · skip
        refine ⟨T13, _, X13, N13, e13, fun tgt kk => ?_⟩
        have kq33 : ((.int (bI ((((1 : Int32) < l1) ∧ ((((0 : Int32) < l1) → (x0 = y0)) ∧ (x1 = y1))) ∨ (¬ ((1 : Int32) < l1) ∧ (((0 : Int32) < l1) → (x0 = y0)))))) : Value) = (.int (bI (((0 : Int32) < l1) → (x0 = y0)))) := (congrArg Value.int (bI_iff (sel_f hc37_18)))
        rw [kq33] at kk
        refine pre17 tgt ?_
        refine XS.icmpYes X13.here hx rfl (pc0 := 37) (pc' := 61) rfl (hb hby d8_37) rfl (XT.ii_le_t hc37_18) (by decide) (by decide) ?_
        show Steps p.tables e below (T13.setTop (mkF m 61 #[.val (.ref b1), .val (.int l1), .val (.ref b2), .val (.int l2), .val (.int (bI (((0 : Int32) < l1) → (x0 = y0))))] [])) _
        exact kk
    have pre34 : ∀ tgt, Steps p.tables e below (T29.setTop (mkF m 63 #[.val (.ref b1), .val (.int l1), .val (.ref b2), .val (.int l2), .val (.int (bI ((((1 : Int32) < l1) ∧ ((((0 : Int32) < l1) → (x0 = y0)) ∧ (x1 = y1))) ∨ (¬ ((1 : Int32) < l1) ∧ (((0 : Int32) < l1) → (x0 = y0))))))] [(.int (2 : Int32)), (.int l1)])) tgt → Steps p.tables e below (s₁.setTop (entryFrame m #[(.ref b1), (.int l1), (.ref b2), (.int l2)] 5)) tgt := by
      intro tgt kk
      refine pre29 tgt ?_
      refine XS.iloadN X29.here hx rfl (hb hby d8_61) rfl ?_
      show Steps p.tables e below (T29.setTop (mkF m 62 #[.val (.ref b1), .val (.int l1), .val (.ref b2), .val (.int l2), .val (.int (bI ((((1 : Int32) < l1) ∧ ((((0 : Int32) < l1) → (x0 = y0)) ∧ (x1 = y1))) ∨ (¬ ((1 : Int32) < l1) ∧ (((0 : Int32) < l1) → (x0 = y0))))))] [(.int l1)])) _
      refine XS.iconst X29.here hx rfl (hb hby d8_62) ?_
      show Steps p.tables e below (T29.setTop (mkF m 63 #[.val (.ref b1), .val (.int l1), .val (.ref b2), .val (.int l2), .val (.int (bI ((((1 : Int32) < l1) ∧ ((((0 : Int32) < l1) → (x0 = y0)) ∧ (x1 = y1))) ∨ (¬ ((1 : Int32) < l1) ∧ (((0 : Int32) < l1) → (x0 = y0))))))] [(.int (2 : Int32)), (.int l1)])) _
      exact kk
    obtain ⟨T46, lo46, X46, N46, e46, pre46⟩ : ∃ (T' : State) (lo : List Loc), Stand p l e ({ frames := 0, cells := 0, slots := 0, locals := 0 } : Room) s m #[(.ref b1), (.int l1), (.ref b2), (.int l2)] below meth c T' lo 0 0 ∧ Fr n0 lo ∧ T'.heap = h0 ∧ ∀ tgt, Steps p.tables e below (T'.setTop (mkF m 87 #[.val (.ref b1), .val (.int l1), .val (.ref b2), .val (.int l2), .val (.int (bI ((((2 : Int32) < l1) ∧ (((((1 : Int32) < l1) ∧ ((((0 : Int32) < l1) → (x0 = y0)) ∧ (x1 = y1))) ∨ (¬ ((1 : Int32) < l1) ∧ (((0 : Int32) < l1) → (x0 = y0)))) ∧ (x2 = y2))) ∨ (¬ ((2 : Int32) < l1) ∧ ((((1 : Int32) < l1) ∧ ((((0 : Int32) < l1) → (x0 = y0)) ∧ (x1 = y1))) ∨ (¬ ((1 : Int32) < l1) ∧ (((0 : Int32) < l1) → (x0 = y0))))))))] [])) tgt → Steps p.tables e below (s₁.setTop (entryFrame m #[(.ref b1), (.int l1), (.ref b2), (.int l2)] 5)) tgt := by
      by_cases hc63_35 : (2 : Int32) < l1
      · skip
        have pre36 : ∀ tgt, Steps p.tables e below (T29.setTop (mkF m 68 #[.val (.ref b1), .val (.int l1), .val (.ref b2), .val (.int l2), .val (.int (bI ((((1 : Int32) < l1) ∧ ((((0 : Int32) < l1) → (x0 = y0)) ∧ (x1 = y1))) ∨ (¬ ((1 : Int32) < l1) ∧ (((0 : Int32) < l1) → (x0 = y0))))))] [(.int (bI ((((1 : Int32) < l1) ∧ ((((0 : Int32) < l1) → (x0 = y0)) ∧ (x1 = y1))) ∨ (¬ ((1 : Int32) < l1) ∧ (((0 : Int32) < l1) → (x0 = y0))))))])) tgt → Steps p.tables e below (s₁.setTop (entryFrame m #[(.ref b1), (.int l1), (.ref b2), (.int l2)] 5)) tgt := by
          intro tgt kk
          refine pre34 tgt ?_
          refine XS.icmpNo X29.here hx rfl (hb hby d8_63) rfl (XT.ii_le_f hc63_35) ?_
          show Steps p.tables e below (T29.setTop (mkF m 66 #[.val (.ref b1), .val (.int l1), .val (.ref b2), .val (.int l2), .val (.int (bI ((((1 : Int32) < l1) ∧ ((((0 : Int32) < l1) → (x0 = y0)) ∧ (x1 = y1))) ∨ (¬ ((1 : Int32) < l1) ∧ (((0 : Int32) < l1) → (x0 = y0))))))] [])) _
          refine XS.iload X29.here hx rfl (hb hby d8_66) rfl ?_
          show Steps p.tables e below (T29.setTop (mkF m 68 #[.val (.ref b1), .val (.int l1), .val (.ref b2), .val (.int l2), .val (.int (bI ((((1 : Int32) < l1) ∧ ((((0 : Int32) < l1) → (x0 = y0)) ∧ (x1 = y1))) ∨ (¬ ((1 : Int32) < l1) ∧ (((0 : Int32) < l1) → (x0 = y0))))))] [(.int (bI ((((1 : Int32) < l1) ∧ ((((0 : Int32) < l1) → (x0 = y0)) ∧ (x1 = y1))) ∨ (¬ ((1 : Int32) < l1) ∧ (((0 : Int32) < l1) → (x0 = y0))))))])) _
          exact kk
        by_cases hc68_37 : (((1 : Int32) < l1) ∧ ((((0 : Int32) < l1) → (x0 = y0)) ∧ (x1 = y1))) ∨ (¬ ((1 : Int32) < l1) ∧ (((0 : Int32) < l1) → (x0 = y0)))
        · skip
          have pre38 : ∀ tgt, Steps p.tables e below (T29.setTop (mkF m 73 #[.val (.ref b1), .val (.int l1), .val (.ref b2), .val (.int l2), .val (.int (bI ((((1 : Int32) < l1) ∧ ((((0 : Int32) < l1) → (x0 = y0)) ∧ (x1 = y1))) ∨ (¬ ((1 : Int32) < l1) ∧ (((0 : Int32) < l1) → (x0 = y0))))))] [(.int (2 : Int32)), (.ref b1)])) tgt → Steps p.tables e below (s₁.setTop (entryFrame m #[(.ref b1), (.int l1), (.ref b2), (.int l2)] 5)) tgt := by
            intro tgt kk
            refine pre36 tgt ?_
            refine XS.ifNo X29.here hx rfl (hb hby d8_68) rfl (bB_eq_f hc68_37) ?_
            show Steps p.tables e below (T29.setTop (mkF m 71 #[.val (.ref b1), .val (.int l1), .val (.ref b2), .val (.int l2), .val (.int (bI ((((1 : Int32) < l1) ∧ ((((0 : Int32) < l1) → (x0 = y0)) ∧ (x1 = y1))) ∨ (¬ ((1 : Int32) < l1) ∧ (((0 : Int32) < l1) → (x0 = y0))))))] [])) _
            refine XS.aloadN X29.here hx rfl (hb hby d8_71) rfl rfl ?_
            show Steps p.tables e below (T29.setTop (mkF m 72 #[.val (.ref b1), .val (.int l1), .val (.ref b2), .val (.int l2), .val (.int (bI ((((1 : Int32) < l1) ∧ ((((0 : Int32) < l1) → (x0 = y0)) ∧ (x1 = y1))) ∨ (¬ ((1 : Int32) < l1) ∧ (((0 : Int32) < l1) → (x0 = y0))))))] [(.ref b1)])) _
            refine XS.iconst X29.here hx rfl (hb hby d8_72) ?_
            show Steps p.tables e below (T29.setTop (mkF m 73 #[.val (.ref b1), .val (.int l1), .val (.ref b2), .val (.int l2), .val (.int (bI ((((1 : Int32) < l1) ∧ ((((0 : Int32) < l1) → (x0 = y0)) ∧ (x1 = y1))) ∨ (¬ ((1 : Int32) < l1) ∧ (((0 : Int32) < l1) → (x0 = y0))))))] [(.int (2 : Int32)), (.ref b1)])) _
            exact kk
          obtain ⟨cl39, Ar39, aq39, aS39, aN39, aH39, aG39⟩ := id V_1
          have hin40 : ¬ ((2 : Int32) < 0 ∨ cl39.slots.size ≤ ((2 : Int32)).toNatClampNeg) := inb_of aS39 ⟨by decide, by decide⟩
          have hat40 : cl39.slots[((2 : Int32)).toNatClampNeg]? = some (.int x2) := Has.at aH39 hin40 rfl
          have pre41 : ∀ tgt, Steps p.tables e below (T29.setTop (mkF m 76 #[.val (.ref b1), .val (.int l1), .val (.ref b2), .val (.int l2), .val (.int (bI ((((1 : Int32) < l1) ∧ ((((0 : Int32) < l1) → (x0 = y0)) ∧ (x1 = y1))) ∨ (¬ ((1 : Int32) < l1) ∧ (((0 : Int32) < l1) → (x0 = y0))))))] [(.int (2 : Int32)), (.ref b2), (.int x2)])) tgt → Steps p.tables e below (s₁.setTop (entryFrame m #[(.ref b1), (.int l1), (.ref b2), (.int l2)] 5)) tgt := by
            intro tgt kk
            refine pre38 tgt ?_
            refine X29.caload hx (j := (2 : Int32)) (v := (.int x2)) (by rw [e29]; exact Ar39.1) (State.isArrayOf_alike hZ.alike Ar39.2.1) Ar39.2.2 hin40 hat40 (g := (mkF m 73 #[.val (.ref b1), .val (.int l1), .val (.ref b2), .val (.int l2), .val (.int (bI ((((1 : Int32) < l1) ∧ ((((0 : Int32) < l1) → (x0 = y0)) ∧ (x1 = y1))) ∨ (¬ ((1 : Int32) < l1) ∧ (((0 : Int32) < l1) → (x0 = y0))))))] [(.int (2 : Int32)), (.ref b1)])) rfl rfl (hb hby d8_73) _ ?_
            show Steps p.tables e below (T29.setTop (mkF m 74 #[.val (.ref b1), .val (.int l1), .val (.ref b2), .val (.int l2), .val (.int (bI ((((1 : Int32) < l1) ∧ ((((0 : Int32) < l1) → (x0 = y0)) ∧ (x1 = y1))) ∨ (¬ ((1 : Int32) < l1) ∧ (((0 : Int32) < l1) → (x0 = y0))))))] [(.int x2)])) _
            refine XS.aloadN X29.here hx rfl (hb hby d8_74) rfl rfl ?_
            show Steps p.tables e below (T29.setTop (mkF m 75 #[.val (.ref b1), .val (.int l1), .val (.ref b2), .val (.int l2), .val (.int (bI ((((1 : Int32) < l1) ∧ ((((0 : Int32) < l1) → (x0 = y0)) ∧ (x1 = y1))) ∨ (¬ ((1 : Int32) < l1) ∧ (((0 : Int32) < l1) → (x0 = y0))))))] [(.ref b2), (.int x2)])) _
            refine XS.iconst X29.here hx rfl (hb hby d8_75) ?_
            show Steps p.tables e below (T29.setTop (mkF m 76 #[.val (.ref b1), .val (.int l1), .val (.ref b2), .val (.int l2), .val (.int (bI ((((1 : Int32) < l1) ∧ ((((0 : Int32) < l1) → (x0 = y0)) ∧ (x1 = y1))) ∨ (¬ ((1 : Int32) < l1) ∧ (((0 : Int32) < l1) → (x0 = y0))))))] [(.int (2 : Int32)), (.ref b2), (.int x2)])) _
            exact kk
          obtain ⟨cl42, Ar42, aq42, aS42, aN42, aH42, aG42⟩ := id V_2
          have hin43 : ¬ ((2 : Int32) < 0 ∨ cl42.slots.size ≤ ((2 : Int32)).toNatClampNeg) := inb_of aS42 ⟨by decide, by decide⟩
          have hat43 : cl42.slots[((2 : Int32)).toNatClampNeg]? = some (.int y2) := Has.at aH42 hin43 rfl
          have pre44 : ∀ tgt, Steps p.tables e below (T29.setTop (mkF m 77 #[.val (.ref b1), .val (.int l1), .val (.ref b2), .val (.int l2), .val (.int (bI ((((1 : Int32) < l1) ∧ ((((0 : Int32) < l1) → (x0 = y0)) ∧ (x1 = y1))) ∨ (¬ ((1 : Int32) < l1) ∧ (((0 : Int32) < l1) → (x0 = y0))))))] [(.int y2), (.int x2)])) tgt → Steps p.tables e below (s₁.setTop (entryFrame m #[(.ref b1), (.int l1), (.ref b2), (.int l2)] 5)) tgt := by
            intro tgt kk
            refine pre41 tgt ?_
            refine X29.caload hx (j := (2 : Int32)) (v := (.int y2)) (by rw [e29]; exact Ar42.1) (State.isArrayOf_alike hZ.alike Ar42.2.1) Ar42.2.2 hin43 hat43 (g := (mkF m 76 #[.val (.ref b1), .val (.int l1), .val (.ref b2), .val (.int l2), .val (.int (bI ((((1 : Int32) < l1) ∧ ((((0 : Int32) < l1) → (x0 = y0)) ∧ (x1 = y1))) ∨ (¬ ((1 : Int32) < l1) ∧ (((0 : Int32) < l1) → (x0 = y0))))))] [(.int (2 : Int32)), (.ref b2), (.int x2)])) rfl rfl (hb hby d8_76) _ ?_
            show Steps p.tables e below (T29.setTop (mkF m 77 #[.val (.ref b1), .val (.int l1), .val (.ref b2), .val (.int l2), .val (.int (bI ((((1 : Int32) < l1) ∧ ((((0 : Int32) < l1) → (x0 = y0)) ∧ (x1 = y1))) ∨ (¬ ((1 : Int32) < l1) ∧ (((0 : Int32) < l1) → (x0 = y0))))))] [(.int y2), (.int x2)])) _
            exact kk
          by_cases hc77_45 : x2 = y2
          · skip
            refine ⟨T29, _, X29, N29, e29, fun tgt kk => ?_⟩
            have kq47 : ((.int (bI ((((2 : Int32) < l1) ∧ (((((1 : Int32) < l1) ∧ ((((0 : Int32) < l1) → (x0 = y0)) ∧ (x1 = y1))) ∨ (¬ ((1 : Int32) < l1) ∧ (((0 : Int32) < l1) → (x0 = y0)))) ∧ (x2 = y2))) ∨ (¬ ((2 : Int32) < l1) ∧ ((((1 : Int32) < l1) ∧ ((((0 : Int32) < l1) → (x0 = y0)) ∧ (x1 = y1))) ∨ (¬ ((1 : Int32) < l1) ∧ (((0 : Int32) < l1) → (x0 = y0)))))))) : Value) = (.int (1 : Int32)) := ((congrArg Value.int (bI_iff (sel_t hc63_35))).trans ((congrArg Value.int (bI_iff (and_iff_right hc68_37))).trans (congrArg Value.int (bI_t hc77_45))))
            rw [kq47] at kk
            refine pre44 tgt ?_
            refine XS.icmpNo X29.here hx rfl (hb hby d8_77) rfl (XT.ii_ne_f hc77_45) ?_
            show Steps p.tables e below (T29.setTop (mkF m 80 #[.val (.ref b1), .val (.int l1), .val (.ref b2), .val (.int l2), .val (.int (bI ((((1 : Int32) < l1) ∧ ((((0 : Int32) < l1) → (x0 = y0)) ∧ (x1 = y1))) ∨ (¬ ((1 : Int32) < l1) ∧ (((0 : Int32) < l1) → (x0 = y0))))))] [])) _
            refine XS.iconst X29.here hx rfl (hb hby d8_80) ?_
            show Steps p.tables e below (T29.setTop (mkF m 81 #[.val (.ref b1), .val (.int l1), .val (.ref b2), .val (.int l2), .val (.int (bI ((((1 : Int32) < l1) ∧ ((((0 : Int32) < l1) → (x0 = y0)) ∧ (x1 = y1))) ∨ (¬ ((1 : Int32) < l1) ∧ (((0 : Int32) < l1) → (x0 = y0))))))] [(.int (1 : Int32))])) _
            refine XS.goto X29.here hx rfl (pc0 := 81) (pc' := 85) rfl (hb hby d8_81) (by decide) (by decide) ?_
            show Steps p.tables e below (T29.setTop (mkF m 85 #[.val (.ref b1), .val (.int l1), .val (.ref b2), .val (.int l2), .val (.int (bI ((((1 : Int32) < l1) ∧ ((((0 : Int32) < l1) → (x0 = y0)) ∧ (x1 = y1))) ∨ (¬ ((1 : Int32) < l1) ∧ (((0 : Int32) < l1) → (x0 = y0))))))] [(.int (1 : Int32))])) _
            refine XS.istore X29.here hx rfl (hb hby d8_85) rfl (l' := #[.val (.ref b1), .val (.int l1), .val (.ref b2), .val (.int l2), .val (.int (1 : Int32))]) rfl ?_
            show Steps p.tables e below (T29.setTop (mkF m 87 #[.val (.ref b1), .val (.int l1), .val (.ref b2), .val (.int l2), .val (.int (1 : Int32))] [])) _
            exact kk
          · skip
            refine ⟨T29, _, X29, N29, e29, fun tgt kk => ?_⟩
            have kq48 : ((.int (bI ((((2 : Int32) < l1) ∧ (((((1 : Int32) < l1) ∧ ((((0 : Int32) < l1) → (x0 = y0)) ∧ (x1 = y1))) ∨ (¬ ((1 : Int32) < l1) ∧ (((0 : Int32) < l1) → (x0 = y0)))) ∧ (x2 = y2))) ∨ (¬ ((2 : Int32) < l1) ∧ ((((1 : Int32) < l1) ∧ ((((0 : Int32) < l1) → (x0 = y0)) ∧ (x1 = y1))) ∨ (¬ ((1 : Int32) < l1) ∧ (((0 : Int32) < l1) → (x0 = y0)))))))) : Value) = (.int (0 : Int32)) := ((congrArg Value.int (bI_iff (sel_t hc63_35))).trans ((congrArg Value.int (bI_iff (and_iff_right hc68_37))).trans (congrArg Value.int (bI_f hc77_45))))
            rw [kq48] at kk
            refine pre44 tgt ?_
            refine XS.icmpYes X29.here hx rfl (pc0 := 77) (pc' := 84) rfl (hb hby d8_77) rfl (XT.ii_ne_t hc77_45) (by decide) (by decide) ?_
            show Steps p.tables e below (T29.setTop (mkF m 84 #[.val (.ref b1), .val (.int l1), .val (.ref b2), .val (.int l2), .val (.int (bI ((((1 : Int32) < l1) ∧ ((((0 : Int32) < l1) → (x0 = y0)) ∧ (x1 = y1))) ∨ (¬ ((1 : Int32) < l1) ∧ (((0 : Int32) < l1) → (x0 = y0))))))] [])) _
            refine XS.iconst X29.here hx rfl (hb hby d8_84) ?_
            show Steps p.tables e below (T29.setTop (mkF m 85 #[.val (.ref b1), .val (.int l1), .val (.ref b2), .val (.int l2), .val (.int (bI ((((1 : Int32) < l1) ∧ ((((0 : Int32) < l1) → (x0 = y0)) ∧ (x1 = y1))) ∨ (¬ ((1 : Int32) < l1) ∧ (((0 : Int32) < l1) → (x0 = y0))))))] [(.int (0 : Int32))])) _
            refine XS.istore X29.here hx rfl (hb hby d8_85) rfl (l' := #[.val (.ref b1), .val (.int l1), .val (.ref b2), .val (.int l2), .val (.int (0 : Int32))]) rfl ?_
            show Steps p.tables e below (T29.setTop (mkF m 87 #[.val (.ref b1), .val (.int l1), .val (.ref b2), .val (.int l2), .val (.int (0 : Int32))] [])) _
            exact kk
        · skip
          refine ⟨T29, _, X29, N29, e29, fun tgt kk => ?_⟩
          have kq49 : ((.int (bI ((((2 : Int32) < l1) ∧ (((((1 : Int32) < l1) ∧ ((((0 : Int32) < l1) → (x0 = y0)) ∧ (x1 = y1))) ∨ (¬ ((1 : Int32) < l1) ∧ (((0 : Int32) < l1) → (x0 = y0)))) ∧ (x2 = y2))) ∨ (¬ ((2 : Int32) < l1) ∧ ((((1 : Int32) < l1) ∧ ((((0 : Int32) < l1) → (x0 = y0)) ∧ (x1 = y1))) ∨ (¬ ((1 : Int32) < l1) ∧ (((0 : Int32) < l1) → (x0 = y0)))))))) : Value) = (.int (0 : Int32)) := ((congrArg Value.int (bI_iff (sel_t hc63_35))).trans (congrArg Value.int (bI_f (fun q => hc68_37 q.1))))
          rw [kq49] at kk
          refine pre36 tgt ?_
          refine XS.ifYes X29.here hx rfl (pc0 := 68) (pc' := 84) rfl (hb hby d8_68) rfl (bB_eq_t hc68_37) (by decide) (by decide) ?_
          show Steps p.tables e below (T29.setTop (mkF m 84 #[.val (.ref b1), .val (.int l1), .val (.ref b2), .val (.int l2), .val (.int (bI ((((1 : Int32) < l1) ∧ ((((0 : Int32) < l1) → (x0 = y0)) ∧ (x1 = y1))) ∨ (¬ ((1 : Int32) < l1) ∧ (((0 : Int32) < l1) → (x0 = y0))))))] [])) _
          refine XS.iconst X29.here hx rfl (hb hby d8_84) ?_
          show Steps p.tables e below (T29.setTop (mkF m 85 #[.val (.ref b1), .val (.int l1), .val (.ref b2), .val (.int l2), .val (.int (bI ((((1 : Int32) < l1) ∧ ((((0 : Int32) < l1) → (x0 = y0)) ∧ (x1 = y1))) ∨ (¬ ((1 : Int32) < l1) ∧ (((0 : Int32) < l1) → (x0 = y0))))))] [(.int (0 : Int32))])) _
          refine XS.istore X29.here hx rfl (hb hby d8_85) rfl (l' := #[.val (.ref b1), .val (.int l1), .val (.ref b2), .val (.int l2), .val (.int (0 : Int32))]) rfl ?_
          show Steps p.tables e below (T29.setTop (mkF m 87 #[.val (.ref b1), .val (.int l1), .val (.ref b2), .val (.int l2), .val (.int (0 : Int32))] [])) _
          exact kk
      · skip
        refine ⟨T29, _, X29, N29, e29, fun tgt kk => ?_⟩
        have kq50 : ((.int (bI ((((2 : Int32) < l1) ∧ (((((1 : Int32) < l1) ∧ ((((0 : Int32) < l1) → (x0 = y0)) ∧ (x1 = y1))) ∨ (¬ ((1 : Int32) < l1) ∧ (((0 : Int32) < l1) → (x0 = y0)))) ∧ (x2 = y2))) ∨ (¬ ((2 : Int32) < l1) ∧ ((((1 : Int32) < l1) ∧ ((((0 : Int32) < l1) → (x0 = y0)) ∧ (x1 = y1))) ∨ (¬ ((1 : Int32) < l1) ∧ (((0 : Int32) < l1) → (x0 = y0)))))))) : Value) = (.int (bI ((((1 : Int32) < l1) ∧ ((((0 : Int32) < l1) → (x0 = y0)) ∧ (x1 = y1))) ∨ (¬ ((1 : Int32) < l1) ∧ (((0 : Int32) < l1) → (x0 = y0)))))) := (congrArg Value.int (bI_iff (sel_f hc63_35)))
        rw [kq50] at kk
        refine pre34 tgt ?_
        refine XS.icmpYes X29.here hx rfl (pc0 := 63) (pc' := 87) rfl (hb hby d8_63) rfl (XT.ii_le_t hc63_35) (by decide) (by decide) ?_
        show Steps p.tables e below (T29.setTop (mkF m 87 #[.val (.ref b1), .val (.int l1), .val (.ref b2), .val (.int l2), .val (.int (bI ((((1 : Int32) < l1) ∧ ((((0 : Int32) < l1) → (x0 = y0)) ∧ (x1 = y1))) ∨ (¬ ((1 : Int32) < l1) ∧ (((0 : Int32) < l1) → (x0 = y0))))))] [])) _
        exact kk
    obtain ⟨fs, hr, hrun, hended, hW, hsame⟩ := X46.leave (v := some (.int (nar .boolean (bI ((((2 : Int32) < l1) ∧ (((((1 : Int32) < l1) ∧ ((((0 : Int32) < l1) → (x0 = y0)) ∧ (x1 = y1))) ∨ (¬ ((1 : Int32) < l1) ∧ (((0 : Int32) < l1) → (x0 = y0)))) ∧ (x2 = y2))) ∨ (¬ ((2 : Int32) < l1) ∧ ((((1 : Int32) < l1) ∧ ((((0 : Int32) < l1) → (x0 = y0)) ∧ (x1 = y1))) ∨ (¬ ((1 : Int32) < l1) ∧ (((0 : Int32) < l1) → (x0 = y0)))))))))) (fun h => by rw [Bd.returns] at h; cases h)
    refine ⟨_, _, pre46 _ ?_, hrun, hended, _, _, rfl, ?_, ⟨_, rfl⟩, hW, hsame.mono (by decide) (by decide)⟩
    · skip
      refine XS.iload X46.here hx rfl (hb hby d8_87) rfl ?_
      show Steps p.tables e below (T46.setTop (mkF m 89 #[.val (.ref b1), .val (.int l1), .val (.ref b2), .val (.int l2), .val (.int (bI ((((2 : Int32) < l1) ∧ (((((1 : Int32) < l1) ∧ ((((0 : Int32) < l1) → (x0 = y0)) ∧ (x1 = y1))) ∨ (¬ ((1 : Int32) < l1) ∧ (((0 : Int32) < l1) → (x0 = y0)))) ∧ (x2 = y2))) ∨ (¬ ((2 : Int32) < l1) ∧ ((((1 : Int32) < l1) ∧ ((((0 : Int32) < l1) → (x0 = y0)) ∧ (x1 = y1))) ∨ (¬ ((1 : Int32) < l1) ∧ (((0 : Int32) < l1) → (x0 = y0))))))))] [(.int (bI ((((2 : Int32) < l1) ∧ (((((1 : Int32) < l1) ∧ ((((0 : Int32) < l1) → (x0 = y0)) ∧ (x1 = y1))) ∨ (¬ ((1 : Int32) < l1) ∧ (((0 : Int32) < l1) → (x0 = y0)))) ∧ (x2 = y2))) ∨ (¬ ((2 : Int32) < l1) ∧ ((((1 : Int32) < l1) ∧ ((((0 : Int32) < l1) → (x0 = y0)) ∧ (x1 = y1))) ∨ (¬ ((1 : Int32) < l1) ∧ (((0 : Int32) < l1) → (x0 = y0))))))))])) _
      exact retN X46 hx (t := .boolean) Bd.returns (by simp) (hb hby d8_89) hr
    · show QSC Z b1 k1 b2 k2 l1 l2 x0 x1 x2 y0 y1 y2 h0 n0 _ T46.heap _
      rw [e46]
      exact ⟨bI_ret.trans (congrArg (fun z => some (Value.int z)) (bI_iff (and_iff_right hc2_2)).symm), N46, rfl⟩
  · skip
    obtain ⟨fs, hr, hrun, hended, hW, hsame⟩ := X0.leave (v := some (.int (0 : Int32))) (fun h => by rw [Bd.returns] at h; cases h)
    refine ⟨_, _, pre1 _ ?_, hrun, hended, _, _, rfl, ?_, ⟨_, rfl⟩, hW, hsame.mono (by decide) (by decide)⟩
    · skip
      refine XS.icmpNo X0.here hx rfl (hb hby d8_2) rfl (XT.ii_eq_f hc2_2) ?_
      show Steps p.tables e below (s₁.setTop (mkF m 5 #[.val (.ref b1), .val (.int l1), .val (.ref b2), .val (.int l2), .unset] [])) _
      refine XS.iconst X0.here hx rfl (hb hby d8_5) ?_
      show Steps p.tables e below (s₁.setTop (mkF m 6 #[.val (.ref b1), .val (.int l1), .val (.ref b2), .val (.int l2), .unset] [(.int (0 : Int32))])) _
      exact retN X0 hx (t := .boolean) Bd.returns (by simp) (hb hby d8_6) hr
    · show QSC Z b1 k1 b2 k2 l1 l2 x0 x1 x2 y0 y1 y2 h0 n0 _ s₁.heap _
      rw [e0]
      exact ⟨congrArg (fun z => some (Value.int z)) (bI_f (fun q => hc2_2 q.1)).symm, N0, rfl⟩
theorem d4_0 : decode jdk_42_method_149_code 0 = .ok (.aload_n 0, 1) := by decide +kernel
theorem d4_1 : decode jdk_42_method_149_code 1 = .ok (.invokespecial 1, 3) := by decide +kernel
theorem d4_4 : decode jdk_42_method_149_code 4 = .ok (.iload_n 3, 1) := by decide +kernel
theorem d4_5 : decode jdk_42_method_149_code 5 = .ok (.ifCond .ne 22, 3) := by decide +kernel
theorem d4_8 : decode jdk_42_method_149_code 8 = .ok (.aload_n 0, 1) := by decide +kernel
theorem d4_9 : decode jdk_42_method_149_code 9 = .ok (.ldc 7, 2) := by decide +kernel
theorem d4_11 : decode jdk_42_method_149_code 11 = .ok (.getfield 9, 3) := by decide +kernel
theorem d4_14 : decode jdk_42_method_149_code 14 = .ok (.putfield 9, 3) := by decide +kernel
theorem d4_17 : decode jdk_42_method_149_code 17 = .ok (.aload_n 0, 1) := by decide +kernel
theorem d4_18 : decode jdk_42_method_149_code 18 = .ok (.ldc 7, 2) := by decide +kernel
theorem d4_20 : decode jdk_42_method_149_code 20 = .ok (.getfield 15, 3) := by decide +kernel
theorem d4_23 : decode jdk_42_method_149_code 23 = .ok (.putfield 15, 3) := by decide +kernel
theorem d4_26 : decode jdk_42_method_149_code 26 = .ok (.return_, 1) := by decide +kernel
theorem pn_4 : plainName "java/lang/String" = true := by first | (simp [plainName, overriddenIn]; done) | decide +kernel
theorem ef_rmS1 (m : MethodId) (x0 : Addr) (x1 : Addr) (x2 : Int32) (x3 : Int32) : entryFrame m #[(.ref x0), (.ref x1), (.int x2), (.int x3), .null] 6 = mkF m 0 #[.val (.ref x0), .val (.ref x1), .val (.int x2), .val (.int x3), .val .null, .unset] [] := by first | (simp [entryFrame, mkF, argsToLocals, Value.category]; done) | rfl
def QS1 (Z : State) (x : Addr) (b : Addr) (h0 : Heap) (n0 : Nat) (v : Option Value) (h : Heap) (L : List Loc) : Prop := v = none ∧ Fr n0 L ∧ Keep h0 h [x] ∧ ∃ (t : Addr) (k : ClassId), Fld Z h x "java/lang/String" "value" "[B" (.ref t) ∧ Fld Z h x "java/lang/String" "coder" "B" (.int (0 : Int32)) ∧ Arv Z h t k .byte (Int32.ofNat (([] : List Int32)).length) (((([] : List Int32)).map (fun c => c.toInt8.toInt32)).map Value.int) (.int (0 : Int32))
set_option maxRecDepth 65536 in
set_option maxHeartbeats 40000000 in
theorem rmS1 (l : Launch) (Z : State) (a0 : Array Value) (hw : ∀ d ∈ tables_1, d.before a0 Z = true) (ws : List Jvm.Cond) (x : Addr) (b : Addr) (h0 : Heap) (n0 : Nat) (Z0 : n0 ≤ h0.size) (E_x : Exa Z h0 x "java/lang/String") (Fv_x : Fld Z h0 x "java/lang/String" "value" "[B" .null) (Fc_x : Fld Z h0 x "java/lang/String" "coder" "B" (.int (0 : Int32))) (g_x : n0 ≤ x) :
    MetFree l (⟨"java/lang/String", "<init>", "([CIILjava/lang/Void;)V"⟩ : MethodName) (head1 (Jvm.Cond.code (⟨"java/lang/String", "<init>", "([CIILjava/lang/Void;)V"⟩ : MethodName) jdk_42_method_149_code 6 none :: ws) ({ frames := 1, cells := 4, slots := 8, locals := 12 } : Room)) (fun ar UU => ar = #[(.ref x), (.ref b), (.int (0 : Int32)), (.int (0 : Int32)), .null] ∧ Z.Warmed39 UU.vm ∧ UU.heap = h0 ∧ CHv Z own_EL UU.vm h0) (fun _ _ _ _ _ => True) (fun _ UU oo UU' => ∃ vv LL, oo = .returned vv ∧ QS1 Z x b h0 n0 vv UU'.heap LL ∧ CHr Z own_EL UU.vm UU.heap UU'.vm UU'.heap ∧ ReturnedEndW UU oo UU' LL ({ frames := 1, cells := 4, slots := 8, locals := 12 } : Room).cells ({ frames := 1, cells := 4, slots := 8, locals := 12 } : Room).slots) := by
  refine MetFree.of_bodySF (plainFor_of_name pn_4) hisR ?_
  intro p e s m args below meth c s₁ Bd hml0 hP hK
  obtain ⟨rfl, hZ, hh, hCv⟩ := hP
  have hx := Bd.exec
  have hby := Bd.bytes
  have hml : c.maxLocals = 6 := hml0
  have hown : s.vm.findClass "java/lang/String" = some m.cls := findClass_of_methodNamed Bd.named
  have hnm := (name_of_methodNamed Bd.named Bd.method).1
  have X0 : Stand p l e ({ frames := 1, cells := 4, slots := 8, locals := 12 } : Room) s m #[(.ref x), (.ref b), (.int (0 : Int32)), (.int (0 : Int32)), .null] below meth c s₁ [] 0 0 := Stand.of_body Bd
  have e0 : s₁.heap = h0 := by rw [← hh, Bd.state]; rfl
  have N0 := Fr.nil n0
  have hEL : EW Z a0 own_EL := own_EW hw
  have CH0 : CHr Z own_EL s.vm h0 s.vm h0 := CHr.refl hCv
  have KC0 : Keep h0 h0 [x] := Keep.refl h0 [x]
  have pre0 : ∀ tgt, Steps p.tables e below (s₁.setTop (mkF m 0 #[.val (.ref x), .val (.ref b), .val (.int (0 : Int32)), .val (.int (0 : Int32)), .val .null, .unset] [])) tgt → Steps p.tables e below (s₁.setTop (entryFrame m #[(.ref x), (.ref b), (.int (0 : Int32)), (.int (0 : Int32)), .null] 6)) tgt := fun tgt kk => castTop (ef_rmS1 m (x) (b) ((0 : Int32)) ((0 : Int32))) kk
  have Sf0 : Safe Z own_EL s.vm h0 x := own_safe_null hZ.alike E_x Fv_x
  have pre1 : ∀ tgt, Steps p.tables e below (s₁.setTop (mkF m 1 #[.val (.ref x), .val (.ref b), .val (.int (0 : Int32)), .val (.int (0 : Int32)), .val .null, .unset] [(.ref x)])) tgt → Steps p.tables e below (s₁.setTop (entryFrame m #[(.ref x), (.ref b), (.int (0 : Int32)), (.int (0 : Int32)), .null] 6)) tgt := by
    intro tgt kk
    refine pre0 tgt ?_
    refine XS.aloadN X0.here hx rfl (hb hby d4_0) rfl rfl ?_
    show Steps p.tables e below (s₁.setTop (mkF m 1 #[.val (.ref x), .val (.ref b), .val (.int (0 : Int32)), .val (.int (0 : Int32)), .val .null, .unset] [(.ref x)])) _
    exact kk
  obtain ⟨T2, X2, e2, st2⟩ := initO X0 hx hZ hown (hw _ (List.mem_of_getElem? (i := 19) rfl)) (hw _ (List.mem_of_getElem? (i := 20) rfl)) (hw _ (List.mem_of_getElem? (i := 21) rfl)) e0 (g := (mkF m 1 #[.val (.ref x), .val (.ref b), .val (.int (0 : Int32)), .val (.int (0 : Int32)), .val .null, .unset] [(.ref x)])) rfl (by rw [hml]; rfl) rfl (hb hby d4_1) (by decide) (W := 0) (by show 2 * 0 + _ ≤ _; exact Nat.le_of_eq rfl) (by decide)
  have pre3 : ∀ tgt, Steps p.tables e below (T2.setTop (mkF m 9 #[.val (.ref x), .val (.ref b), .val (.int (0 : Int32)), .val (.int (0 : Int32)), .val .null, .unset] [(.ref x)])) tgt → Steps p.tables e below (s₁.setTop (entryFrame m #[(.ref x), (.ref b), (.int (0 : Int32)), (.int (0 : Int32)), .null] 6)) tgt := by
    intro tgt kk
    refine pre1 tgt ?_
    refine st2 _ ?_
    show Steps p.tables e below (T2.setTop (mkF m 4 #[.val (.ref x), .val (.ref b), .val (.int (0 : Int32)), .val (.int (0 : Int32)), .val .null, .unset] [])) _
    refine XS.iloadN X2.here hx rfl (hb hby d4_4) rfl ?_
    show Steps p.tables e below (T2.setTop (mkF m 5 #[.val (.ref x), .val (.ref b), .val (.int (0 : Int32)), .val (.int (0 : Int32)), .val .null, .unset] [(.int (0 : Int32))])) _
    refine XS.ifNo X2.here hx rfl (hb hby d4_5) rfl (XT.i0_ne_f (by decide)) ?_
    show Steps p.tables e below (T2.setTop (mkF m 8 #[.val (.ref x), .val (.ref b), .val (.int (0 : Int32)), .val (.int (0 : Int32)), .val .null, .unset] [])) _
    refine XS.aloadN X2.here hx rfl (hb hby d4_8) rfl rfl ?_
    show Steps p.tables e below (T2.setTop (mkF m 9 #[.val (.ref x), .val (.ref b), .val (.int (0 : Int32)), .val (.int (0 : Int32)), .val .null, .unset] [(.ref x)])) _
    exact kk
  have hwS : ∀ d ∈ Bundle.stringAtoms, d.before a0 Z = true := fun d hd => hw d ((by decide +kernel : ∀ d ∈ Bundle.stringAtoms, d ∈ tables_1) d hd)
  obtain ⟨lit4, T4, h4, k4, lb4, lk4, X4, e4, E4, hS4, hkl4, hZ, hown, lE4, lC4, lV4, lA4, lta4, ltb4, CL4, -, lsf4, st4⟩ := ldcCH (s := s) (vm0 := s.vm) X2 hx hZ hown (hw _ (List.mem_of_getElem? (i := 22) rfl)) hwS e2 (k0 := 0) ((State.WarmedH.refl s).since 0) (Nat.zero_le _) hEL (List.mem_of_getElem? (i := 0) rfl) CH0.1 (vs := []) (z := (0 : Int32)) ⟨by decide +kernel, by rfl⟩ (by decide) rfl (g := (mkF m 9 #[.val (.ref x), .val (.ref b), .val (.int (0 : Int32)), .val (.int (0 : Int32)), .val .null, .unset] [(.ref x)])) rfl (hb hby d4_9) (n := 0) (by decide +kernel) (by decide) (by decide) (by decide)
  have ltS5_0 := E_x.lt
  have CH5 : CHr Z own_EL s.vm h0 T4.vm h4 := CH0.trans CL4
  have Sf5_ltS5_0 := CL4.safe ltS5_0 Sf0
  have E_x : Exa Z h4 x "java/lang/String" := E_x.ext E4
  have Fv_x : Fld Z h4 x "java/lang/String" "value" "[B" .null := Fv_x.ext E4
  have Fc_x : Fld Z h4 x "java/lang/String" "coder" "B" (.int (0 : Int32)) := Fc_x.ext E4
  have Zs6 : n0 ≤ h4.size := Nat.le_trans Z0 E4.1
  have KC6 : Keep h0 h4 [x] := KC0.ext E4
  have E_lit4 : Exa Z h4 lit4 "java/lang/String" := lE4
  have Fc_lit4 : Fld Z h4 lit4 "java/lang/String" "coder" "B" (.int (0 : Int32)) := lC4
  have Fv_lit4 : Fld Z h4 lit4 "java/lang/String" "value" "[B" (.ref lb4) := lV4
  have V_lit4 : Arv Z h4 lb4 lk4 .byte (0 : Int32) ((([] : List Int32).map (fun c => c.toInt8.toInt32)).map Value.int) (.int (0 : Int32)) := lA4
  have nel4_Sf5_ltS5_0 : x ≠ lit4 ∧ x ≠ lb4 := lsf4 x Sf5_ltS5_0
  have pre7 : ∀ tgt, Steps p.tables e below (T4.setTop (mkF m 11 #[.val (.ref x), .val (.ref b), .val (.int (0 : Int32)), .val (.int (0 : Int32)), .val .null, .unset] [(.ref lit4), (.ref x)])) tgt → Steps p.tables e below (s₁.setTop (entryFrame m #[(.ref x), (.ref b), (.int (0 : Int32)), (.int (0 : Int32)), .null] 6)) tgt := by
    intro tgt kk
    refine pre3 tgt ?_
    refine st4 _ ?_
    show Steps p.tables e below (T4.setTop (mkF m 11 #[.val (.ref x), .val (.ref b), .val (.int (0 : Int32)), .val (.int (0 : Int32)), .val .null, .unset] [(.ref lit4), (.ref x)])) _
    exact kk
  obtain ⟨T8, X8, e8, st8⟩ := getF X4 hx hZ hown (host := "") (Or.inl (hw _ (List.mem_of_getElem? (i := 28) rfl))) Via.refl e4 Fv_lit4 (g := (mkF m 11 #[.val (.ref x), .val (.ref b), .val (.int (0 : Int32)), .val (.int (0 : Int32)), .val .null, .unset] [(.ref lit4), (.ref x)])) rfl rfl (hb hby d4_11)
  have pre9 : ∀ tgt, Steps p.tables e below (T8.setTop (mkF m 14 #[.val (.ref x), .val (.ref b), .val (.int (0 : Int32)), .val (.int (0 : Int32)), .val .null, .unset] [(.ref lb4), (.ref x)])) tgt → Steps p.tables e below (s₁.setTop (entryFrame m #[(.ref x), (.ref b), (.int (0 : Int32)), (.int (0 : Int32)), .null] 6)) tgt := by
    intro tgt kk
    refine pre7 tgt ?_
    refine st8 _ ?_
    show Steps p.tables e below (T8.setTop (mkF m 14 #[.val (.ref x), .val (.ref b), .val (.int (0 : Int32)), .val (.int (0 : Int32)), .val .null, .unset] [(.ref lb4), (.ref x)])) _
    exact kk
  obtain ⟨T10, h10, X10, e10, W10, st10⟩ := putF X8 hx hZ hown (host := "") (Or.inl (hw _ (List.mem_of_getElem? (i := 28) rfl))) Via.refl e8 Fv_x E_x (Or.inr ⟨(hw _ (List.mem_of_getElem? (i := 24) rfl)), rfl, hnm⟩) (hw _ (List.mem_of_getElem? (i := 10) rfl)) (ty := (.array .byte)) (by decide) rfl rfl (g := (mkF m 14 #[.val (.ref x), .val (.ref b), .val (.int (0 : Int32)), .val (.int (0 : Int32)), .val .null, .unset] [(.ref lb4), (.ref x)])) rfl rfl (hb hby d4_14)
  have N10 := Fr.snoc X10 N0 g_x
  have Fq10 : Fld Z h10 x "java/lang/String" "value" "[B" (.ref lb4) := Fv_x.same W10
  have ltS11_0 := E_x.lt
  have CA11 : CHr Z own_EL T4.vm h4 T4.vm h10 := CHr.wr W10 Sf5_ltS5_0 CH5.1
  have CH11 : CHr Z own_EL s.vm h0 T4.vm h10 := CH5.trans CA11
  have Sf11_ltS11_0 := CA11.safe ltS11_0 Sf5_ltS5_0
  have E_x : Exa Z h10 x "java/lang/String" := E_x.wr W10
  have Fc_x : Fld Z h10 x "java/lang/String" "coder" "B" (.int (0 : Int32)) := Fc_x.other W10 (Or.inr (slot_ne (Or.inr (hw _ (List.mem_of_getElem? (i := 25) rfl))) (Or.inr (hw _ (List.mem_of_getElem? (i := 24) rfl))) (by decide) (t := .byte) (t' := (.array .byte)) (by decide) (by decide)))
  have E_lit4 : Exa Z h10 lit4 "java/lang/String" := E_lit4.wr W10
  have Fc_lit4 : Fld Z h10 lit4 "java/lang/String" "coder" "B" (.int (0 : Int32)) := Fc_lit4.other W10 (Or.inl (Ne.symm nel4_Sf5_ltS5_0.1))
  have Fv_lit4 : Fld Z h10 lit4 "java/lang/String" "value" "[B" (.ref lb4) := Fv_lit4.other W10 (Or.inl (Ne.symm nel4_Sf5_ltS5_0.1))
  have V_lit4 : Arv Z h10 lb4 lk4 .byte (0 : Int32) ((([] : List Int32).map (fun c => c.toInt8.toInt32)).map Value.int) (.int (0 : Int32)) := V_lit4.other W10 (Ne.symm nel4_Sf5_ltS5_0.2)
  have Zs12 : n0 ≤ h10.size := Nat.le_trans Zs6 (Keep.of_wr W10).1
  have hk12 : k4 ≤ h10.size := Nat.le_trans hkl4 (Keep.of_wr W10).1
  have KC12 : Keep h0 h10 [x] := KC6.wr W10 (Or.inl (List.mem_of_getElem? (i := 0) rfl))
  have Fv_x := Fq10
  have pre13 : ∀ tgt, Steps p.tables e below (T10.setTop (mkF m 18 #[.val (.ref x), .val (.ref b), .val (.int (0 : Int32)), .val (.int (0 : Int32)), .val .null, .unset] [(.ref x)])) tgt → Steps p.tables e below (s₁.setTop (entryFrame m #[(.ref x), (.ref b), (.int (0 : Int32)), (.int (0 : Int32)), .null] 6)) tgt := by
    intro tgt kk
    refine pre9 tgt ?_
    refine st10 _ ?_
    show Steps p.tables e below (T10.setTop (mkF m 17 #[.val (.ref x), .val (.ref b), .val (.int (0 : Int32)), .val (.int (0 : Int32)), .val .null, .unset] [])) _
    refine XS.aloadN X10.here hx rfl (hb hby d4_17) rfl rfl ?_
    show Steps p.tables e below (T10.setTop (mkF m 18 #[.val (.ref x), .val (.ref b), .val (.int (0 : Int32)), .val (.int (0 : Int32)), .val .null, .unset] [(.ref x)])) _
    exact kk
  have hwS : ∀ d ∈ Bundle.stringAtoms, d.before a0 Z = true := fun d hd => hw d ((by decide +kernel : ∀ d ∈ Bundle.stringAtoms, d ∈ tables_1) d hd)
  obtain ⟨lit14, T14, h14, k14, lb14, lk14, X14, e14, E14, hS14, hkl14, hZ, hown, lE14, lC14, lV14, lA14, lta14, ltb14, CL14, -, lsf14, st14⟩ := ldcCH (s := s) (vm0 := T4.vm) X10 hx hZ hown (hw _ (List.mem_of_getElem? (i := 22) rfl)) hwS e10 (k0 := k4) hS4 hk12 hEL (List.mem_of_getElem? (i := 0) rfl) CH11.1 (vs := []) (z := (0 : Int32)) ⟨by decide +kernel, by rfl⟩ (by decide) rfl (g := (mkF m 18 #[.val (.ref x), .val (.ref b), .val (.int (0 : Int32)), .val (.int (0 : Int32)), .val .null, .unset] [(.ref x)])) rfl (hb hby d4_18) (n := 0) (by decide +kernel) (by decide) (by decide) (by decide)
  have ltS15_0 := E_x.lt
  have CH15 : CHr Z own_EL s.vm h0 T14.vm h14 := CH11.trans CL14
  have Sf15_ltS15_0 := CL14.safe ltS15_0 Sf11_ltS11_0
  have E_x : Exa Z h14 x "java/lang/String" := E_x.ext E14
  have Fc_x : Fld Z h14 x "java/lang/String" "coder" "B" (.int (0 : Int32)) := Fc_x.ext E14
  have E_lit4 : Exa Z h14 lit4 "java/lang/String" := E_lit4.ext E14
  have Fc_lit4 : Fld Z h14 lit4 "java/lang/String" "coder" "B" (.int (0 : Int32)) := Fc_lit4.ext E14
  have Fv_lit4 : Fld Z h14 lit4 "java/lang/String" "value" "[B" (.ref lb4) := Fv_lit4.ext E14
  have V_lit4 : Arv Z h14 lb4 lk4 .byte (0 : Int32) ((([] : List Int32).map (fun c => c.toInt8.toInt32)).map Value.int) (.int (0 : Int32)) := V_lit4.ext E14
  have Fv_x : Fld Z h14 x "java/lang/String" "value" "[B" (.ref lb4) := Fv_x.ext E14
  have Zs16 : n0 ≤ h14.size := Nat.le_trans Zs12 E14.1
  have hk16 : k4 ≤ h14.size := Nat.le_trans hk12 E14.1
  have KC16 : Keep h0 h14 [x] := KC12.ext E14
  have E_lit14 : Exa Z h14 lit14 "java/lang/String" := lE14
  have Fc_lit14 : Fld Z h14 lit14 "java/lang/String" "coder" "B" (.int (0 : Int32)) := lC14
  have Fv_lit14 : Fld Z h14 lit14 "java/lang/String" "value" "[B" (.ref lb14) := lV14
  have V_lit14 : Arv Z h14 lb14 lk14 .byte (0 : Int32) ((([] : List Int32).map (fun c => c.toInt8.toInt32)).map Value.int) (.int (0 : Int32)) := lA14
  have nel14_Sf15_ltS15_0 : x ≠ lit14 ∧ x ≠ lb14 := lsf14 x Sf15_ltS15_0
  have pre17 : ∀ tgt, Steps p.tables e below (T14.setTop (mkF m 20 #[.val (.ref x), .val (.ref b), .val (.int (0 : Int32)), .val (.int (0 : Int32)), .val .null, .unset] [(.ref lit14), (.ref x)])) tgt → Steps p.tables e below (s₁.setTop (entryFrame m #[(.ref x), (.ref b), (.int (0 : Int32)), (.int (0 : Int32)), .null] 6)) tgt := by
    intro tgt kk
    refine pre13 tgt ?_
    refine st14 _ ?_
    show Steps p.tables e below (T14.setTop (mkF m 20 #[.val (.ref x), .val (.ref b), .val (.int (0 : Int32)), .val (.int (0 : Int32)), .val .null, .unset] [(.ref lit14), (.ref x)])) _
    exact kk
  obtain ⟨T18, X18, e18, st18⟩ := getF X14 hx hZ hown (host := "") (Or.inl (hw _ (List.mem_of_getElem? (i := 29) rfl))) Via.refl e14 Fc_lit14 (g := (mkF m 20 #[.val (.ref x), .val (.ref b), .val (.int (0 : Int32)), .val (.int (0 : Int32)), .val .null, .unset] [(.ref lit14), (.ref x)])) rfl rfl (hb hby d4_20)
  have pre19 : ∀ tgt, Steps p.tables e below (T18.setTop (mkF m 23 #[.val (.ref x), .val (.ref b), .val (.int (0 : Int32)), .val (.int (0 : Int32)), .val .null, .unset] [(.int (0 : Int32)), (.ref x)])) tgt → Steps p.tables e below (s₁.setTop (entryFrame m #[(.ref x), (.ref b), (.int (0 : Int32)), (.int (0 : Int32)), .null] 6)) tgt := by
    intro tgt kk
    refine pre17 tgt ?_
    refine st18 _ ?_
    show Steps p.tables e below (T18.setTop (mkF m 23 #[.val (.ref x), .val (.ref b), .val (.int (0 : Int32)), .val (.int (0 : Int32)), .val .null, .unset] [(.int (0 : Int32)), (.ref x)])) _
    exact kk
  obtain ⟨T20, h20, X20, e20, W20, st20⟩ := putFN X18 hx hZ hown (hw _ (List.mem_of_getElem? (i := 29) rfl)) Via.refl e18 Fc_x E_x (Or.inr ⟨(hw _ (List.mem_of_getElem? (i := 25) rfl)), rfl, hnm⟩) (hw _ (List.mem_of_getElem? (i := 10) rfl)) (ty := .byte) (v' := (.int (0 : Int32))) (by decide) rfl rfl (g := (mkF m 23 #[.val (.ref x), .val (.ref b), .val (.int (0 : Int32)), .val (.int (0 : Int32)), .val .null, .unset] [(.int (0 : Int32)), (.ref x)])) rfl rfl (hb hby d4_23)
  have N20 := Fr.snoc X20 N10 g_x
  have Fq20 : Fld Z h20 x "java/lang/String" "coder" "B" (.int (0 : Int32)) := Fc_x.same W20
  have ltS21_0 := E_x.lt
  have CA21 : CHr Z own_EL T14.vm h14 T14.vm h20 := CHr.wr W20 Sf15_ltS15_0 CH15.1
  have CH21 : CHr Z own_EL s.vm h0 T14.vm h20 := CH15.trans CA21
  have Sf21_ltS21_0 := CA21.safe ltS21_0 Sf15_ltS15_0
  have E_x : Exa Z h20 x "java/lang/String" := E_x.wr W20
  have E_lit4 : Exa Z h20 lit4 "java/lang/String" := E_lit4.wr W20
  have Fc_lit4 : Fld Z h20 lit4 "java/lang/String" "coder" "B" (.int (0 : Int32)) := Fc_lit4.other W20 (Or.inl (Ne.symm nel4_Sf5_ltS5_0.1))
  have Fv_lit4 : Fld Z h20 lit4 "java/lang/String" "value" "[B" (.ref lb4) := Fv_lit4.other W20 (Or.inl (Ne.symm nel4_Sf5_ltS5_0.1))
  have V_lit4 : Arv Z h20 lb4 lk4 .byte (0 : Int32) ((([] : List Int32).map (fun c => c.toInt8.toInt32)).map Value.int) (.int (0 : Int32)) := V_lit4.other W20 (Ne.symm nel4_Sf5_ltS5_0.2)
  have Fv_x : Fld Z h20 x "java/lang/String" "value" "[B" (.ref lb4) := Fv_x.other W20 (Or.inr (slot_ne (Or.inr (hw _ (List.mem_of_getElem? (i := 24) rfl))) (Or.inr (hw _ (List.mem_of_getElem? (i := 25) rfl))) (by decide) (t := (.array .byte)) (t' := .byte) (by decide) (by decide)))
  have E_lit14 : Exa Z h20 lit14 "java/lang/String" := E_lit14.wr W20
  have Fc_lit14 : Fld Z h20 lit14 "java/lang/String" "coder" "B" (.int (0 : Int32)) := Fc_lit14.other W20 (Or.inl (Ne.symm nel14_Sf15_ltS15_0.1))
  have Fv_lit14 : Fld Z h20 lit14 "java/lang/String" "value" "[B" (.ref lb14) := Fv_lit14.other W20 (Or.inl (Ne.symm nel14_Sf15_ltS15_0.1))
  have V_lit14 : Arv Z h20 lb14 lk14 .byte (0 : Int32) ((([] : List Int32).map (fun c => c.toInt8.toInt32)).map Value.int) (.int (0 : Int32)) := V_lit14.other W20 (Ne.symm nel14_Sf15_ltS15_0.2)
  have Zs22 : n0 ≤ h20.size := Nat.le_trans Zs16 (Keep.of_wr W20).1
  have hk22 : k14 ≤ h20.size := Nat.le_trans hkl14 (Keep.of_wr W20).1
  have KC22 : Keep h0 h20 [x] := KC16.wr W20 (Or.inl (List.mem_of_getElem? (i := 0) rfl))
  have Fc_x := Fq20
  obtain ⟨fs, hr, hrun, hended, hR⟩ := Stand.leaveW (s := s) (vm₁ := T14.vm) X20 (n := k14) hS14 (by rw [e20]; exact hk22) (v := none) (fun _ => rfl)
  refine ⟨_, _, pre19 _ ?_, hrun, hended, _, _, rfl, ?_, ?_, hR.1, hR.2.1, hR.2.2.1, hR.2.2.2.mono (by decide) (by decide)⟩
  · skip
    refine st20 _ ?_
    show Steps p.tables e below (T20.setTop (mkF m 26 #[.val (.ref x), .val (.ref b), .val (.int (0 : Int32)), .val (.int (0 : Int32)), .val .null, .unset] [])) _
    exact X20.returnOut hx Bd.returns (hb hby d4_26) hr
  · show QS1 Z x b h0 n0 _ T20.heap _
    rw [e20]
    exact ⟨rfl, N20, KC22, lb4, lk4, Fv_x, Fc_x, V_lit4⟩
  · show CHr Z own_EL s.vm s.heap T20.vm T20.heap
    rw [hh, e20]
    exact CH21.trans (CHv.at (vm0 := T14.vm) (s := s) X20 hZ hEL CH21.1)
theorem d3_0 : decode jdk_42_method_3_code 0 = .ok (.aload_n 0, 1) := by decide +kernel
theorem d3_1 : decode jdk_42_method_3_code 1 = .ok (.aload_n 1, 1) := by decide +kernel
theorem d3_2 : decode jdk_42_method_3_code 2 = .ok (.iconst 0, 1) := by decide +kernel
theorem d3_3 : decode jdk_42_method_3_code 3 = .ok (.aload_n 1, 1) := by decide +kernel
theorem d3_4 : decode jdk_42_method_3_code 4 = .ok (.arraylength, 1) := by decide +kernel
theorem d3_5 : decode jdk_42_method_3_code 5 = .ok (.aconst_null, 1) := by decide +kernel
theorem d3_6 : decode jdk_42_method_3_code 6 = .ok (.invokespecial 27, 3) := by decide +kernel
theorem d3_9 : decode jdk_42_method_3_code 9 = .ok (.return_, 1) := by decide +kernel
theorem pn_3 : plainName "java/lang/String" = true := by first | (simp [plainName, overriddenIn]; done) | decide +kernel
theorem pd___CIILjava_lang_Void__V : parseMethodDescriptor "([CIILjava/lang/Void;)V" = some ⟨[(.array .char), .int, .int, (.object "java/lang/Void")], none⟩ := by decide +kernel
theorem ef_rmS0 (m : MethodId) (x0 : Addr) (x1 : Addr) : entryFrame m #[(.ref x0), (.ref x1)] 2 = mkF m 0 #[.val (.ref x0), .val (.ref x1)] [] := by first | (simp [entryFrame, mkF, argsToLocals, Value.category]; done) | rfl
def QS0 (Z : State) (x : Addr) (b : Addr) (kb : ClassId) (h0 : Heap) (n0 : Nat) (v : Option Value) (h : Heap) (L : List Loc) : Prop := v = none ∧ Fr n0 L ∧ Keep h0 h [x] ∧ ∃ (t : Addr) (k : ClassId), Fld Z h x "java/lang/String" "value" "[B" (.ref t) ∧ Fld Z h x "java/lang/String" "coder" "B" (.int (0 : Int32)) ∧ Arv Z h t k .byte (Int32.ofNat (([] : List Int32)).length) (((([] : List Int32)).map (fun c => c.toInt8.toInt32)).map Value.int) (.int (0 : Int32))
set_option maxRecDepth 65536 in
set_option maxHeartbeats 40000000 in
theorem rmS0 (l : Launch) (Z : State) (a0 : Array Value) (hw : ∀ d ∈ tables_1, d.before a0 Z = true) (ws : List Jvm.Cond) (x : Addr) (b : Addr) (kb : ClassId) (h0 : Heap) (n0 : Nat) (Z0 : n0 ≤ h0.size) (E_x : Exa Z h0 x "java/lang/String") (Fv_x : Fld Z h0 x "java/lang/String" "value" "[B" .null) (Fc_x : Fld Z h0 x "java/lang/String" "coder" "B" (.int (0 : Int32))) (g_x : n0 ≤ x) (V_b : Arv Z h0 b kb .char (0 : Int32) [] (.int (0 : Int32))) (hbx : b ≠ x) :
    MetFree l (⟨"java/lang/String", "<init>", "([C)V"⟩ : MethodName) (head1 (Jvm.Cond.code (⟨"java/lang/String", "<init>", "([C)V"⟩ : MethodName) jdk_42_method_3_code 2 none :: ws) ({ frames := 2, cells := 4, slots := 8, locals := 29 } : Room)) (fun ar UU => ar = #[(.ref x), (.ref b)] ∧ Z.Warmed39 UU.vm ∧ UU.heap = h0 ∧ CHv Z own_EL UU.vm h0) (fun _ _ _ _ _ => True) (fun _ UU oo UU' => ∃ vv LL, oo = .returned vv ∧ QS0 Z x b kb h0 n0 vv UU'.heap LL ∧ CHr Z own_EL UU.vm UU.heap UU'.vm UU'.heap ∧ ReturnedEndW UU oo UU' LL ({ frames := 2, cells := 4, slots := 8, locals := 29 } : Room).cells ({ frames := 2, cells := 4, slots := 8, locals := 29 } : Room).slots) := by
  refine MetFree.of_bodySF (plainFor_of_name pn_3) hisR ?_
  intro p e s m args below meth c s₁ Bd hml0 hP hK
  obtain ⟨rfl, hZ, hh, hCv⟩ := hP
  have hx := Bd.exec
  have hby := Bd.bytes
  have hml : c.maxLocals = 2 := hml0
  have hown : s.vm.findClass "java/lang/String" = some m.cls := findClass_of_methodNamed Bd.named
  have hnm := (name_of_methodNamed Bd.named Bd.method).1
  have X0 : Stand p l e ({ frames := 2, cells := 4, slots := 8, locals := 29 } : Room) s m #[(.ref x), (.ref b)] below meth c s₁ [] 0 0 := Stand.of_body Bd
  have e0 : s₁.heap = h0 := by rw [← hh, Bd.state]; rfl
  have N0 := Fr.nil n0
  have hEL : EW Z a0 own_EL := own_EW hw
  have CH0 : CHr Z own_EL s.vm h0 s.vm h0 := CHr.refl hCv
  have KC0 : Keep h0 h0 [x] := Keep.refl h0 [x]
  have pre0 : ∀ tgt, Steps p.tables e below (s₁.setTop (mkF m 0 #[.val (.ref x), .val (.ref b)] [])) tgt → Steps p.tables e below (s₁.setTop (entryFrame m #[(.ref x), (.ref b)] 2)) tgt := fun tgt kk => castTop (ef_rmS0 m (x) (b)) kk
  have Sf0 : Safe Z own_EL s.vm h0 x := own_safe_null hZ.alike E_x Fv_x
  have pre1 : ∀ tgt, Steps p.tables e below (s₁.setTop (mkF m 4 #[.val (.ref x), .val (.ref b)] [(.ref b), (.int (0 : Int32)), (.ref b), (.ref x)])) tgt → Steps p.tables e below (s₁.setTop (entryFrame m #[(.ref x), (.ref b)] 2)) tgt := by
    intro tgt kk
    refine pre0 tgt ?_
    refine XS.aloadN X0.here hx rfl (hb hby d3_0) rfl rfl ?_
    show Steps p.tables e below (s₁.setTop (mkF m 1 #[.val (.ref x), .val (.ref b)] [(.ref x)])) _
    refine XS.aloadN X0.here hx rfl (hb hby d3_1) rfl rfl ?_
    show Steps p.tables e below (s₁.setTop (mkF m 2 #[.val (.ref x), .val (.ref b)] [(.ref b), (.ref x)])) _
    refine XS.iconst X0.here hx rfl (hb hby d3_2) ?_
    show Steps p.tables e below (s₁.setTop (mkF m 3 #[.val (.ref x), .val (.ref b)] [(.int (0 : Int32)), (.ref b), (.ref x)])) _
    refine XS.aloadN X0.here hx rfl (hb hby d3_3) rfl rfl ?_
    show Steps p.tables e below (s₁.setTop (mkF m 4 #[.val (.ref x), .val (.ref b)] [(.ref b), (.int (0 : Int32)), (.ref b), (.ref x)])) _
    exact kk
  obtain ⟨cl2, Ar2, aq2, aS2, aN2, aH2, aG2⟩ := id V_b
  have pre3 : ∀ tgt, Steps p.tables e below (s₁.setTop (mkF m 6 #[.val (.ref x), .val (.ref b)] [.null, (.int (0 : Int32)), (.int (0 : Int32)), (.ref b), (.ref x)])) tgt → Steps p.tables e below (s₁.setTop (entryFrame m #[(.ref x), (.ref b)] 2)) tgt := by
    intro tgt kk
    refine pre1 tgt ?_
    refine X0.arraylength hx (by rw [e0]; exact Ar2.1) (State.isArrayOf_alike hZ.alike Ar2.2.1) (g := (mkF m 4 #[.val (.ref x), .val (.ref b)] [(.ref b), (.int (0 : Int32)), (.ref b), (.ref x)])) rfl rfl (hb hby d3_4) _ ?_
    rw [len_of aS2 aN2]
    show Steps p.tables e below (s₁.setTop (mkF m 5 #[.val (.ref x), .val (.ref b)] [(.int (0 : Int32)), (.int (0 : Int32)), (.ref b), (.ref x)])) _
    refine XS.aconstNull X0.here hx rfl (hb hby d3_5) ?_
    show Steps p.tables e below (s₁.setTop (mkF m 6 #[.val (.ref x), .val (.ref b)] [.null, (.int (0 : Int32)), (.int (0 : Int32)), (.ref b), (.ref x)])) _
    exact kk
  obtain ⟨_, _, ⟨T4, L4, k4, n4⟩, -, X4, hSi4, hgi4, ⟨Lc4, hQ4, l4, y4, z4, CL4⟩, st4⟩ := X0.specialBackS hx (y := (⟨"java/lang/String", "<init>", "([CIILjava/lang/Void;)V"⟩ : MethodName)) rfl hown (mvT hZ (hw _ (List.mem_of_getElem? (i := 15) rfl))) (mvT hZ (hw _ (List.mem_of_getElem? (i := 16) rfl))) (mvT hZ (hw _ (List.mem_of_getElem? (i := 18) rfl))) (by decide) (backOfSH (s := s) (vm0 := s.vm) (W := 0) (rmS1 l Z a0 hw [] x b h0 n0 Z0 E_x Fv_x Fc_x g_x) hZ (hw _ (List.mem_of_getElem? (i := 18) rfl)) (hw _ (List.mem_of_getElem? (i := 11) rfl)) (by decide) (by decide) hEL CH0.1) (g := (mkF m 6 #[.val (.ref x), .val (.ref b)] [.null, (.int (0 : Int32)), (.int (0 : Int32)), (.ref b), (.ref x)])) rfl (by rw [hml]; rfl) (Steps.refl _) (a := x) (argsL := [(.ref b), (.int (0 : Int32)), (.int (0 : Int32)), .null]) (rest := []) (lenOf pd___CIILjava_lang_Void__V rfl) rfl (by show 2 * 0 + _ ≤ _; exact Nat.le_of_eq rfl) (hb hby d3_6) (fun _ _ => ⟨rfl, e0, (by decide : 0 + 4 ≤ _), (by decide : 0 + 8 ≤ _)⟩)
  dsimp only [Pt.U, Pt.locs, Pt.cells, Pt.slots] at X4 l4 y4 z4 st4 hQ4 hSi4 hgi4 CL4
  subst l4 y4 z4
  obtain ⟨rfl, N4q, K4, tt4, kk4, Qv4, Qc4, Qa4⟩ := hQ4
  have N4 := Fr.app N0 N4q
  have hS4 := foldS (s := s) ((State.WarmedH.refl s).since 0) (by rw [e0]; exact (Nat.zero_le _)) hSi4 hgi4
  have hZ : Z.Warmed39 (s.setVm T4.vm).vm := State.Warmed39.trans hZ hSi4.1
  have hown : (s.setVm T4.vm).vm.findClass "java/lang/String" = some m.cls := by rw [show (s.setVm T4.vm).vm = T4.vm from rfl, hSi4.1.alike.findClass]; exact hown
  have ltS5_0 := E_x.lt
  have CH5 : CHr Z own_EL s.vm h0 T4.vm T4.heap := CH0.trans CL4
  have Sf5_ltS5_0 := CL4.safe ltS5_0 Sf0
  have E_x : Exa Z T4.heap x "java/lang/String" := E_x.keep K4
  have V_b : Arv Z T4.heap b kb .char (0 : Int32) [] (.int (0 : Int32)) := V_b.keep K4 (ninS hbx nin0)
  have Zs6 : n0 ≤ T4.heap.size := Nat.le_trans Z0 K4.1
  have KC6 : Keep h0 T4.heap [x] := KC0.trans K4 (allS (Or.inl (List.mem_of_getElem? (i := 0) rfl)) all0)
  have Fv_x : Fld Z T4.heap x "java/lang/String" "value" "[B" (.ref tt4) := Qv4
  have Fc_x : Fld Z T4.heap x "java/lang/String" "coder" "B" (.int (0 : Int32)) := Qc4
  have V_x : Arv Z T4.heap tt4 kk4 .byte (Int32.ofNat (([] : List Int32)).length) (((([] : List Int32)).map (fun c => c.toInt8.toInt32)).map Value.int) (.int (0 : Int32)) := Qa4
  obtain ⟨fs, hr, hrun, hended, hR⟩ := Stand.leaveW (s := s) (vm₁ := T4.vm) X4 (n := T4.heap.size) hS4 (Nat.le_refl _) (v := none) (fun _ => rfl)
  refine ⟨_, _, pre3 _ ?_, hrun, hended, _, _, rfl, ?_, ?_, hR.1, hR.2.1, hR.2.2.1, hR.2.2.2.mono (by decide) (by decide)⟩
  · skip
    refine st4.trans ?_
    show Steps p.tables e below (T4.setTop (mkF m 9 #[.val (.ref x), .val (.ref b)] [])) _
    exact X4.returnOut hx Bd.returns (hb hby d3_9) hr
  · show QS0 Z x b kb h0 n0 _ T4.heap _
    exact ⟨rfl, N4, KC6, tt4, kk4, Fv_x, Fc_x, V_x⟩
  · show CHr Z own_EL s.vm s.heap T4.vm T4.heap
    rw [hh]
    exact CH5.trans (CHv.at (vm0 := T4.vm) (s := s) X4 hZ hEL CH5.1)
theorem d2_0 : decode method_2_code 0 = .ok (.iload_n 1, 1) := by decide +kernel
theorem d2_1 : decode method_2_code 1 = .ok (.ifCond .ne 14, 3) := by decide +kernel
theorem d2_4 : decode method_2_code 4 = .ok (.new 7, 3) := by decide +kernel
theorem d2_7 : decode method_2_code 7 = .ok (.dup, 1) := by decide +kernel
theorem d2_8 : decode method_2_code 8 = .ok (.iconst 0, 1) := by decide +kernel
theorem d2_9 : decode method_2_code 9 = .ok (.newarray .char, 2) := by decide +kernel
theorem d2_11 : decode method_2_code 11 = .ok (.invokespecial 9, 3) := by decide +kernel
theorem d2_14 : decode method_2_code 14 = .ok (.areturn, 1) := by decide +kernel
theorem d2_15 : decode method_2_code 15 = .ok (.iload_n 1, 1) := by decide +kernel
theorem d2_16 : decode method_2_code 16 = .ok (.iconst 1, 1) := by decide +kernel
theorem d2_17 : decode method_2_code 17 = .ok (.if_icmp .ne 20, 3) := by decide +kernel
theorem d2_20 : decode method_2_code 20 = .ok (.new 7, 3) := by decide +kernel
theorem d2_23 : decode method_2_code 23 = .ok (.dup, 1) := by decide +kernel
theorem d2_24 : decode method_2_code 24 = .ok (.iconst 1, 1) := by decide +kernel
theorem d2_25 : decode method_2_code 25 = .ok (.newarray .char, 2) := by decide +kernel
theorem d2_27 : decode method_2_code 27 = .ok (.dup, 1) := by decide +kernel
theorem d2_28 : decode method_2_code 28 = .ok (.iconst 0, 1) := by decide +kernel
theorem d2_29 : decode method_2_code 29 = .ok (.aload_n 0, 1) := by decide +kernel
theorem d2_30 : decode method_2_code 30 = .ok (.iconst 0, 1) := by decide +kernel
theorem d2_31 : decode method_2_code 31 = .ok (.caload, 1) := by decide +kernel
theorem d2_32 : decode method_2_code 32 = .ok (.castore, 1) := by decide +kernel
theorem d2_33 : decode method_2_code 33 = .ok (.invokespecial 9, 3) := by decide +kernel
theorem d2_36 : decode method_2_code 36 = .ok (.areturn, 1) := by decide +kernel
theorem d2_37 : decode method_2_code 37 = .ok (.iload_n 1, 1) := by decide +kernel
theorem d2_38 : decode method_2_code 38 = .ok (.iconst 2, 1) := by decide +kernel
theorem d2_39 : decode method_2_code 39 = .ok (.if_icmp .ne 26, 3) := by decide +kernel
theorem d2_42 : decode method_2_code 42 = .ok (.new 7, 3) := by decide +kernel
theorem d2_45 : decode method_2_code 45 = .ok (.dup, 1) := by decide +kernel
theorem d2_46 : decode method_2_code 46 = .ok (.iconst 2, 1) := by decide +kernel
theorem d2_47 : decode method_2_code 47 = .ok (.newarray .char, 2) := by decide +kernel
theorem d2_49 : decode method_2_code 49 = .ok (.dup, 1) := by decide +kernel
theorem d2_50 : decode method_2_code 50 = .ok (.iconst 0, 1) := by decide +kernel
theorem d2_51 : decode method_2_code 51 = .ok (.aload_n 0, 1) := by decide +kernel
theorem d2_52 : decode method_2_code 52 = .ok (.iconst 0, 1) := by decide +kernel
theorem d2_53 : decode method_2_code 53 = .ok (.caload, 1) := by decide +kernel
theorem d2_54 : decode method_2_code 54 = .ok (.castore, 1) := by decide +kernel
theorem d2_55 : decode method_2_code 55 = .ok (.dup, 1) := by decide +kernel
theorem d2_56 : decode method_2_code 56 = .ok (.iconst 1, 1) := by decide +kernel
theorem d2_57 : decode method_2_code 57 = .ok (.aload_n 0, 1) := by decide +kernel
theorem d2_58 : decode method_2_code 58 = .ok (.iconst 1, 1) := by decide +kernel
theorem d2_59 : decode method_2_code 59 = .ok (.caload, 1) := by decide +kernel
theorem d2_60 : decode method_2_code 60 = .ok (.castore, 1) := by decide +kernel
theorem d2_61 : decode method_2_code 61 = .ok (.invokespecial 9, 3) := by decide +kernel
theorem d2_64 : decode method_2_code 64 = .ok (.areturn, 1) := by decide +kernel
theorem d2_65 : decode method_2_code 65 = .ok (.new 7, 3) := by decide +kernel
theorem d2_68 : decode method_2_code 68 = .ok (.dup, 1) := by decide +kernel
theorem d2_69 : decode method_2_code 69 = .ok (.iconst 3, 1) := by decide +kernel
theorem d2_70 : decode method_2_code 70 = .ok (.newarray .char, 2) := by decide +kernel
theorem d2_72 : decode method_2_code 72 = .ok (.dup, 1) := by decide +kernel
theorem d2_73 : decode method_2_code 73 = .ok (.iconst 0, 1) := by decide +kernel
theorem d2_74 : decode method_2_code 74 = .ok (.aload_n 0, 1) := by decide +kernel
theorem d2_75 : decode method_2_code 75 = .ok (.iconst 0, 1) := by decide +kernel
theorem d2_76 : decode method_2_code 76 = .ok (.caload, 1) := by decide +kernel
theorem d2_77 : decode method_2_code 77 = .ok (.castore, 1) := by decide +kernel
theorem d2_78 : decode method_2_code 78 = .ok (.dup, 1) := by decide +kernel
theorem d2_79 : decode method_2_code 79 = .ok (.iconst 1, 1) := by decide +kernel
theorem d2_80 : decode method_2_code 80 = .ok (.aload_n 0, 1) := by decide +kernel
theorem d2_81 : decode method_2_code 81 = .ok (.iconst 1, 1) := by decide +kernel
theorem d2_82 : decode method_2_code 82 = .ok (.caload, 1) := by decide +kernel
theorem d2_83 : decode method_2_code 83 = .ok (.castore, 1) := by decide +kernel
theorem d2_84 : decode method_2_code 84 = .ok (.dup, 1) := by decide +kernel
theorem d2_85 : decode method_2_code 85 = .ok (.iconst 2, 1) := by decide +kernel
theorem d2_86 : decode method_2_code 86 = .ok (.aload_n 0, 1) := by decide +kernel
theorem d2_87 : decode method_2_code 87 = .ok (.iconst 2, 1) := by decide +kernel
theorem d2_88 : decode method_2_code 88 = .ok (.caload, 1) := by decide +kernel
theorem d2_89 : decode method_2_code 89 = .ok (.castore, 1) := by decide +kernel
theorem d2_90 : decode method_2_code 90 = .ok (.invokespecial 9, 3) := by decide +kernel
theorem d2_93 : decode method_2_code 93 = .ok (.areturn, 1) := by decide +kernel
theorem pn_2 : plainName "com/example/postie/postie/config/ListenEqualsPinLaw" = true := by first | (simp [plainName, overriddenIn]; done) | decide +kernel
theorem pd___C_V : parseMethodDescriptor "([C)V" = some ⟨[(.array .char)], none⟩ := by decide +kernel
theorem ef_rmMk (m : MethodId) (x0 : Addr) (x1 : Int32) : entryFrame m #[(.ref x0), (.int x1)] 2 = mkF m 0 #[.val (.ref x0), .val (.int x1)] [] := by first | (simp [entryFrame, mkF, argsToLocals, Value.category]; done) | rfl
def QMk (Z : State) (b1 : Addr) (k1 : ClassId) (l1 : Int32) (x0 : Int32) (x1 : Int32) (x2 : Int32) (z0 : Int32) (h0 : Heap) (n0 : Nat) (v : Option Value) (h : Heap) (L : List Loc) : Prop := ∃ (r t : Addr) (k : ClassId), v = some (.ref r) ∧ Fr n0 L ∧ Keep h0 h [] ∧ h0.size ≤ r ∧ Exa Z h r "java/lang/String" ∧ Fld Z h r "java/lang/String" "value" "[B" (.ref t) ∧ Fld Z h r "java/lang/String" "coder" "B" (.int (0 : Int32)) ∧ Arv Z h t k .byte (Int32.ofNat (own_cs l1 x0 x1 x2).length) (((own_cs l1 x0 x1 x2).map (fun c => c.toInt8.toInt32)).map Value.int) (.int (0 : Int32))
set_option maxRecDepth 65536 in
set_option maxHeartbeats 40000000 in
theorem rmMk (l : Launch) (Z : State) (a0 : Array Value) (hw : ∀ d ∈ tables_1, d.before a0 Z = true) (ws : List Jvm.Cond) (b1 : Addr) (k1 : ClassId) (l1 : Int32) (x0 : Int32) (x1 : Int32) (x2 : Int32) (z0 : Int32) (h0 : Heap) (n0 : Nat) (Z0 : n0 ≤ h0.size) (S_CS : Sta Z h0 "java/lang/String" "COMPACT_STRINGS" "Z" (.int z0)) (V_1 : Arv Z h0 b1 k1 .char (3 : Int32) [(.int x0), (.int x1), (.int x2)] (.int (0 : Int32))) (hp0 : ¬ x0 < 0 ∧ ¬ (255 : Int32) < x0) (hp1 : ¬ x1 < 0 ∧ ¬ (255 : Int32) < x1) (hp2 : ¬ x2 < 0 ∧ ¬ (255 : Int32) < x2) (hz : ¬ z0 = 0) :
    MetFree l (⟨"com/example/postie/postie/config/ListenEqualsPinLaw", "make", "([CI)Ljava/lang/String;"⟩ : MethodName) (head1 (Jvm.Cond.code (⟨"com/example/postie/postie/config/ListenEqualsPinLaw", "make", "([CI)Ljava/lang/String;"⟩ : MethodName) method_2_code 2 (some (.object "java/lang/String")) :: ws) ({ frames := 4, cells := 6, slots := 15, locals := 66 } : Room)) (fun ar UU => ar = #[(.ref b1), (.int l1)] ∧ Z.Warmed39 UU.vm ∧ UU.heap = h0 ∧ CHv Z own_EL UU.vm h0) (fun _ _ _ _ _ => True) (fun _ UU oo UU' => ∃ vv LL, oo = .returned vv ∧ QMk Z b1 k1 l1 x0 x1 x2 z0 h0 n0 vv UU'.heap LL ∧ CHr Z own_EL UU.vm UU.heap UU'.vm UU'.heap ∧ ReturnedEndW UU oo UU' LL ({ frames := 4, cells := 6, slots := 15, locals := 66 } : Room).cells ({ frames := 4, cells := 6, slots := 15, locals := 66 } : Room).slots) := by
  refine MetFree.of_bodySF (plainFor_of_name pn_2) hisR ?_
  intro p e s m args below meth c s₁ Bd hml0 hP hK
  obtain ⟨rfl, hZ, hh, hCv⟩ := hP
  have hx := Bd.exec
  have hby := Bd.bytes
  have hml : c.maxLocals = 2 := hml0
  have hown : s.vm.findClass "com/example/postie/postie/config/ListenEqualsPinLaw" = some m.cls := findClass_of_methodNamed Bd.named
  have hnm := (name_of_methodNamed Bd.named Bd.method).1
  have X0 : Stand p l e ({ frames := 4, cells := 6, slots := 15, locals := 66 } : Room) s m #[(.ref b1), (.int l1)] below meth c s₁ [] 0 0 := Stand.of_body Bd
  have e0 : s₁.heap = h0 := by rw [← hh, Bd.state]; rfl
  have N0 := Fr.nil n0
  have hEL : EW Z a0 own_EL := own_EW hw
  have CH0 : CHr Z own_EL s.vm h0 s.vm h0 := CHr.refl hCv
  have KC0 : Keep h0 h0 [] := Keep.refl h0 []
  have pre0 : ∀ tgt, Steps p.tables e below (s₁.setTop (mkF m 0 #[.val (.ref b1), .val (.int l1)] [])) tgt → Steps p.tables e below (s₁.setTop (entryFrame m #[(.ref b1), (.int l1)] 2)) tgt := fun tgt kk => castTop (ef_rmMk m (b1) (l1)) kk
  have pre1 : ∀ tgt, Steps p.tables e below (s₁.setTop (mkF m 1 #[.val (.ref b1), .val (.int l1)] [(.int l1)])) tgt → Steps p.tables e below (s₁.setTop (entryFrame m #[(.ref b1), (.int l1)] 2)) tgt := by
    intro tgt kk
    refine pre0 tgt ?_
    refine XS.iloadN X0.here hx rfl (hb hby d2_0) rfl ?_
    show Steps p.tables e below (s₁.setTop (mkF m 1 #[.val (.ref b1), .val (.int l1)] [(.int l1)])) _
    exact kk
  by_cases hc1_2 : l1 = (0 : Int32)
  · skip
    have pre3 : ∀ tgt, Steps p.tables e below (s₁.setTop (mkF m 4 #[.val (.ref b1), .val (.int l1)] [])) tgt → Steps p.tables e below (s₁.setTop (entryFrame m #[(.ref b1), (.int l1)] 2)) tgt := by
      intro tgt kk
      refine pre1 tgt ?_
      refine XS.ifNo X0.here hx rfl (hb hby d2_1) rfl (XT.i0_ne_f hc1_2) ?_
      show Steps p.tables e below (s₁.setTop (mkF m 4 #[.val (.ref b1), .val (.int l1)] [])) _
      exact kk
    obtain ⟨T4, h4, X4, e4, E4, A4, D4, -, st4⟩ := newO X0 hx hZ hown (hw _ (List.mem_of_getElem? (i := 9) rfl)) (hw _ (List.mem_of_getElem? (i := 10) rfl)) (hw _ (List.mem_of_getElem? (i := 11) rfl)) e0 (g := (mkF m 4 #[.val (.ref b1), .val (.int l1)] [])) rfl (hb hby d2_4) (by decide) (by decide)
    obtain ⟨b4, g4⟩ : ∃ z, z = h0.size := ⟨_, rfl⟩
    rw [← g4] at A4 D4 st4
    have ne5 : b1 ≠ b4 := Nat.ne_of_lt (Nat.lt_of_lt_of_le V_1.lt (Nat.le_of_eq g4.symm))
    have gn6 : n0 ≤ b4 := Nat.le_trans Z0 (Nat.le_of_eq g4.symm)
    have sz6 : h0.size ≤ b4 := Nat.le_trans KC0.1 (Nat.le_of_eq g4.symm)
    have CA7 : CHr Z own_EL s.vm h0 s.vm h4 := CHr.ext E4 CH0.1
    have CH7 : CHr Z own_EL s.vm h0 s.vm h4 := CH0.trans CA7
    have S_CS : Sta Z h4 "java/lang/String" "COMPACT_STRINGS" "Z" (.int z0) := S_CS.ext E4
    have V_1 : Arv Z h4 b1 k1 .char (3 : Int32) [(.int x0), (.int x1), (.int x2)] (.int (0 : Int32)) := V_1.ext E4
    have Zs8 : n0 ≤ h4.size := Nat.le_trans Z0 E4.1
    have KC8 : Keep h0 h4 [] := KC0.ext E4
    have E_b4 : Exa Z h4 b4 "java/lang/String" := A4
    have F_value_b4 : Fld Z h4 b4 "java/lang/String" "value" "[B" .null := D4 (Or.inr (hw _ (List.mem_of_getElem? (i := 24) rfl))) (ty := (.array .byte)) (by decide)
    have F_coder_b4 : Fld Z h4 b4 "java/lang/String" "coder" "B" (.int (0 : Int32)) := D4 (Or.inr (hw _ (List.mem_of_getElem? (i := 25) rfl))) (ty := .byte) (by decide)
    have Sn9 := Safe.ext E4 CH0.1 (Safe.new (Nat.le_of_eq g4.symm))
    have pre10 : ∀ tgt, Steps p.tables e below (T4.setTop (mkF m 9 #[.val (.ref b1), .val (.int l1)] [(.int (0 : Int32)), (.ref b4), (.ref b4)])) tgt → Steps p.tables e below (s₁.setTop (entryFrame m #[(.ref b1), (.int l1)] 2)) tgt := by
      intro tgt kk
      refine pre3 tgt ?_
      refine st4 _ ?_
      show Steps p.tables e below (T4.setTop (mkF m 7 #[.val (.ref b1), .val (.int l1)] [(.ref b4)])) _
      refine XS.dup X4.here hx rfl (hb hby d2_7) rfl rfl ?_
      show Steps p.tables e below (T4.setTop (mkF m 8 #[.val (.ref b1), .val (.int l1)] [(.ref b4), (.ref b4)])) _
      refine XS.iconst X4.here hx rfl (hb hby d2_8) ?_
      show Steps p.tables e below (T4.setTop (mkF m 9 #[.val (.ref b1), .val (.int l1)] [(.int (0 : Int32)), (.ref b4), (.ref b4)])) _
      exact kk
    obtain ⟨T11, h11, k11, X11, e11, E11, A11, st11⟩ := newP X4 hx hZ (hw _ (List.mem_of_getElem? (i := 0) rfl)) e4 (g := (mkF m 9 #[.val (.ref b1), .val (.int l1)] [(.int (0 : Int32)), (.ref b4), (.ref b4)])) rfl (hb hby d2_9) rfl (by decide) (cap := 0) (by decide) (by decide) (by decide) (by decide)
    obtain ⟨b11, g11⟩ : ∃ z, z = h4.size := ⟨_, rfl⟩
    rw [← g11] at A11 st11
    have ne12 : b1 ≠ b11 := Nat.ne_of_lt (Nat.lt_of_lt_of_le V_1.lt (Nat.le_of_eq g11.symm))
    have ne13 : b4 ≠ b11 := Nat.ne_of_lt (Nat.lt_of_lt_of_le E_b4.lt (Nat.le_of_eq g11.symm))
    have gn14 : n0 ≤ b11 := Nat.le_trans Zs8 (Nat.le_of_eq g11.symm)
    have sz14 : h0.size ≤ b11 := Nat.le_trans KC8.1 (Nat.le_of_eq g11.symm)
    have ltS15_0 := E_b4.lt
    have CA15 : CHr Z own_EL s.vm h4 s.vm h11 := CHr.ext E11 CH7.1
    have CH15 : CHr Z own_EL s.vm h0 s.vm h11 := CH7.trans CA15
    have Sf15_ltS15_0 := CA15.safe ltS15_0 Sn9
    have S_CS : Sta Z h11 "java/lang/String" "COMPACT_STRINGS" "Z" (.int z0) := S_CS.ext E11
    have V_1 : Arv Z h11 b1 k1 .char (3 : Int32) [(.int x0), (.int x1), (.int x2)] (.int (0 : Int32)) := V_1.ext E11
    have E_b4 : Exa Z h11 b4 "java/lang/String" := E_b4.ext E11
    have F_value_b4 : Fld Z h11 b4 "java/lang/String" "value" "[B" .null := F_value_b4.ext E11
    have F_coder_b4 : Fld Z h11 b4 "java/lang/String" "coder" "B" (.int (0 : Int32)) := F_coder_b4.ext E11
    have Zs16 : n0 ≤ h11.size := Nat.le_trans Zs8 E11.1
    have KC16 : Keep h0 h11 [] := KC8.ext E11
    have V_b11 : Arv Z h11 b11 k11 .char (0 : Int32) [] (.int (0 : Int32)) := (Arv.new A11 (by decide)).pad (pad_rep [] (.int (0 : Int32)) 0)
    have Sn17 := Safe.ext E11 CH7.1 (Safe.new (Nat.le_of_eq g11.symm))
    have pre18 : ∀ tgt, Steps p.tables e below (T11.setTop (mkF m 11 #[.val (.ref b1), .val (.int l1)] [(.ref b11), (.ref b4), (.ref b4)])) tgt → Steps p.tables e below (s₁.setTop (entryFrame m #[(.ref b1), (.int l1)] 2)) tgt := by
      intro tgt kk
      refine pre10 tgt ?_
      refine st11 _ ?_
      show Steps p.tables e below (T11.setTop (mkF m 11 #[.val (.ref b1), .val (.int l1)] [(.ref b11), (.ref b4), (.ref b4)])) _
      exact kk
    obtain ⟨_, _, ⟨T19, L19, k19, n19⟩, -, X19, hSi19, hgi19, ⟨Lc19, hQ19, l19, y19, z19, CL19⟩, st19⟩ := X11.specialBackS hx (y := (⟨"java/lang/String", "<init>", "([C)V"⟩ : MethodName)) rfl hown (mvT hZ (hw _ (List.mem_of_getElem? (i := 12) rfl))) (mvT hZ (hw _ (List.mem_of_getElem? (i := 13) rfl))) (mvT hZ (hw _ (List.mem_of_getElem? (i := 14) rfl))) (by decide) (backOfSH (s := s) (vm0 := s.vm) (W := 1) (rmS0 l Z a0 hw [] b4 b11 k11 h11 n0 Zs16 E_b4 F_value_b4 F_coder_b4 gn6 V_b11 (Ne.symm ne13)) hZ (hw _ (List.mem_of_getElem? (i := 14) rfl)) (hw _ (List.mem_of_getElem? (i := 11) rfl)) (by decide) (by decide) hEL CH15.1) (g := (mkF m 11 #[.val (.ref b1), .val (.int l1)] [(.ref b11), (.ref b4), (.ref b4)])) rfl (by rw [hml]; rfl) (Steps.refl _) (a := b4) (argsL := [(.ref b11)]) (rest := [(.ref b4)]) (lenOf pd___C_V rfl) rfl (by show 2 * 0 + _ ≤ _; exact Nat.le_of_eq rfl) (hb hby d2_11) (fun _ _ => ⟨rfl, e11, (by decide : 2 + 4 ≤ _), (by decide : 4 + 8 ≤ _)⟩)
    dsimp only [Pt.U, Pt.locs, Pt.cells, Pt.slots] at X19 l19 y19 z19 st19 hQ19 hSi19 hgi19 CL19
    subst l19 y19 z19
    obtain ⟨rfl, N19q, K19, tt19, kk19, Qv19, Qc19, Qa19⟩ := hQ19
    have N19 := Fr.app N0 N19q
    have hS19 := foldS (s := s) ((State.WarmedH.refl s).since 0) (by rw [e11]; exact (Nat.zero_le _)) hSi19 hgi19
    have hZ : Z.Warmed39 (s.setVm T19.vm).vm := State.Warmed39.trans hZ hSi19.1
    have hown : (s.setVm T19.vm).vm.findClass "com/example/postie/postie/config/ListenEqualsPinLaw" = some m.cls := by rw [show (s.setVm T19.vm).vm = T19.vm from rfl, hSi19.1.alike.findClass]; exact hown
    have ltS20_0 := E_b4.lt
    have ltS20_1 := V_b11.lt
    have CH20 : CHr Z own_EL s.vm h0 T19.vm T19.heap := CH15.trans CL19
    have Sf20_ltS20_0 := CL19.safe ltS20_0 Sf15_ltS15_0
    have Sf20_ltS20_1 := CL19.safe ltS20_1 Sn17
    have pl22 := own_plain_Exa E_b4
    have S_CS : Sta Z T19.heap "java/lang/String" "COMPACT_STRINGS" "Z" (.int z0) := own_sta_keep S_CS K19 (allS pl22 all0)
    have V_1 : Arv Z T19.heap b1 k1 .char (3 : Int32) [(.int x0), (.int x1), (.int x2)] (.int (0 : Int32)) := V_1.keep K19 (ninS ne5 nin0)
    have E_b4 : Exa Z T19.heap b4 "java/lang/String" := E_b4.keep K19
    have V_b11 : Arv Z T19.heap b11 k11 .char (0 : Int32) [] (.int (0 : Int32)) := V_b11.keep K19 (ninS (Ne.symm ne13) nin0)
    have Zs21 : n0 ≤ T19.heap.size := Nat.le_trans Zs16 K19.1
    have KC21 : Keep h0 T19.heap [] := KC16.trans K19 (allS (Or.inr sz6) all0)
    have Fv_b4 : Fld Z T19.heap b4 "java/lang/String" "value" "[B" (.ref tt19) := Qv19
    have Fc_b4 : Fld Z T19.heap b4 "java/lang/String" "coder" "B" (.int (0 : Int32)) := Qc19
    have V_b4 : Arv Z T19.heap tt19 kk19 .byte (Int32.ofNat (([] : List Int32)).length) (((([] : List Int32)).map (fun c => c.toInt8.toInt32)).map Value.int) (.int (0 : Int32)) := Qa19
    obtain ⟨fs, hr, hrun, hended, hR⟩ := Stand.leaveW (s := s) (vm₁ := T19.vm) X19 (n := T19.heap.size) hS19 (Nat.le_refl _) (v := some (.ref b4)) (fun h => by rw [Bd.returns] at h; cases h)
    refine ⟨_, _, pre18 _ ?_, hrun, hended, _, _, rfl, ?_, ?_, hR.1, hR.2.1, hR.2.2.1, hR.2.2.2.mono (by decide) (by decide)⟩
    · skip
      refine st19.trans ?_
      show Steps p.tables e below (T19.setTop (mkF m 14 #[.val (.ref b1), .val (.int l1)] [(.ref b4)])) _
      exact retOut X19 hx Bd.returns rfl (Or.inr (Or.inr (Or.inr (Or.inr ⟨rfl, rfl, rfl⟩)))) (hb hby d2_14) hr
    · show QMk Z b1 k1 l1 x0 x1 x2 z0 h0 n0 _ T19.heap _
      have eq : own_cs l1 x0 x1 x2 = [] := by unfold own_cs; rw [if_pos hc1_2]
      refine ⟨b4, tt19, kk19, rfl, N19, KC21, sz6, E_b4, Fv_b4, Fc_b4, ?_⟩
      rw [eq]; exact V_b4
    · show CHr Z own_EL s.vm s.heap T19.vm T19.heap
      rw [hh]
      exact CH20.trans (CHv.at (vm0 := T19.vm) (s := s) X19 hZ hEL CH20.1)
  · skip
    have pre23 : ∀ tgt, Steps p.tables e below (s₁.setTop (mkF m 17 #[.val (.ref b1), .val (.int l1)] [(.int (1 : Int32)), (.int l1)])) tgt → Steps p.tables e below (s₁.setTop (entryFrame m #[(.ref b1), (.int l1)] 2)) tgt := by
      intro tgt kk
      refine pre1 tgt ?_
      refine XS.ifYes X0.here hx rfl (pc0 := 1) (pc' := 15) rfl (hb hby d2_1) rfl (XT.i0_ne_t hc1_2) (by decide) (by decide) ?_
      show Steps p.tables e below (s₁.setTop (mkF m 15 #[.val (.ref b1), .val (.int l1)] [])) _
      refine XS.iloadN X0.here hx rfl (hb hby d2_15) rfl ?_
      show Steps p.tables e below (s₁.setTop (mkF m 16 #[.val (.ref b1), .val (.int l1)] [(.int l1)])) _
      refine XS.iconst X0.here hx rfl (hb hby d2_16) ?_
      show Steps p.tables e below (s₁.setTop (mkF m 17 #[.val (.ref b1), .val (.int l1)] [(.int (1 : Int32)), (.int l1)])) _
      exact kk
    by_cases hc17_24 : l1 = (1 : Int32)
    · skip
      have pre25 : ∀ tgt, Steps p.tables e below (s₁.setTop (mkF m 20 #[.val (.ref b1), .val (.int l1)] [])) tgt → Steps p.tables e below (s₁.setTop (entryFrame m #[(.ref b1), (.int l1)] 2)) tgt := by
        intro tgt kk
        refine pre23 tgt ?_
        refine XS.icmpNo X0.here hx rfl (hb hby d2_17) rfl (XT.ii_ne_f hc17_24) ?_
        show Steps p.tables e below (s₁.setTop (mkF m 20 #[.val (.ref b1), .val (.int l1)] [])) _
        exact kk
      obtain ⟨T26, h26, X26, e26, E26, A26, D26, -, st26⟩ := newO X0 hx hZ hown (hw _ (List.mem_of_getElem? (i := 9) rfl)) (hw _ (List.mem_of_getElem? (i := 10) rfl)) (hw _ (List.mem_of_getElem? (i := 11) rfl)) e0 (g := (mkF m 20 #[.val (.ref b1), .val (.int l1)] [])) rfl (hb hby d2_20) (by decide) (by decide)
      obtain ⟨b26, g26⟩ : ∃ z, z = h0.size := ⟨_, rfl⟩
      rw [← g26] at A26 D26 st26
      have ne27 : b1 ≠ b26 := Nat.ne_of_lt (Nat.lt_of_lt_of_le V_1.lt (Nat.le_of_eq g26.symm))
      have gn28 : n0 ≤ b26 := Nat.le_trans Z0 (Nat.le_of_eq g26.symm)
      have sz28 : h0.size ≤ b26 := Nat.le_trans KC0.1 (Nat.le_of_eq g26.symm)
      have CA29 : CHr Z own_EL s.vm h0 s.vm h26 := CHr.ext E26 CH0.1
      have CH29 : CHr Z own_EL s.vm h0 s.vm h26 := CH0.trans CA29
      have S_CS : Sta Z h26 "java/lang/String" "COMPACT_STRINGS" "Z" (.int z0) := S_CS.ext E26
      have V_1 : Arv Z h26 b1 k1 .char (3 : Int32) [(.int x0), (.int x1), (.int x2)] (.int (0 : Int32)) := V_1.ext E26
      have Zs30 : n0 ≤ h26.size := Nat.le_trans Z0 E26.1
      have KC30 : Keep h0 h26 [] := KC0.ext E26
      have E_b26 : Exa Z h26 b26 "java/lang/String" := A26
      have F_value_b26 : Fld Z h26 b26 "java/lang/String" "value" "[B" .null := D26 (Or.inr (hw _ (List.mem_of_getElem? (i := 24) rfl))) (ty := (.array .byte)) (by decide)
      have F_coder_b26 : Fld Z h26 b26 "java/lang/String" "coder" "B" (.int (0 : Int32)) := D26 (Or.inr (hw _ (List.mem_of_getElem? (i := 25) rfl))) (ty := .byte) (by decide)
      have Sn31 := Safe.ext E26 CH0.1 (Safe.new (Nat.le_of_eq g26.symm))
      have pre32 : ∀ tgt, Steps p.tables e below (T26.setTop (mkF m 25 #[.val (.ref b1), .val (.int l1)] [(.int (1 : Int32)), (.ref b26), (.ref b26)])) tgt → Steps p.tables e below (s₁.setTop (entryFrame m #[(.ref b1), (.int l1)] 2)) tgt := by
        intro tgt kk
        refine pre25 tgt ?_
        refine st26 _ ?_
        show Steps p.tables e below (T26.setTop (mkF m 23 #[.val (.ref b1), .val (.int l1)] [(.ref b26)])) _
        refine XS.dup X26.here hx rfl (hb hby d2_23) rfl rfl ?_
        show Steps p.tables e below (T26.setTop (mkF m 24 #[.val (.ref b1), .val (.int l1)] [(.ref b26), (.ref b26)])) _
        refine XS.iconst X26.here hx rfl (hb hby d2_24) ?_
        show Steps p.tables e below (T26.setTop (mkF m 25 #[.val (.ref b1), .val (.int l1)] [(.int (1 : Int32)), (.ref b26), (.ref b26)])) _
        exact kk
      obtain ⟨T33, h33, k33, X33, e33, E33, A33, st33⟩ := newP X26 hx hZ (hw _ (List.mem_of_getElem? (i := 0) rfl)) e26 (g := (mkF m 25 #[.val (.ref b1), .val (.int l1)] [(.int (1 : Int32)), (.ref b26), (.ref b26)])) rfl (hb hby d2_25) rfl (by decide) (cap := 1) (by decide) (by decide) (by decide) (by decide)
      obtain ⟨b33, g33⟩ : ∃ z, z = h26.size := ⟨_, rfl⟩
      rw [← g33] at A33 st33
      have ne34 : b1 ≠ b33 := Nat.ne_of_lt (Nat.lt_of_lt_of_le V_1.lt (Nat.le_of_eq g33.symm))
      have ne35 : b26 ≠ b33 := Nat.ne_of_lt (Nat.lt_of_lt_of_le E_b26.lt (Nat.le_of_eq g33.symm))
      have gn36 : n0 ≤ b33 := Nat.le_trans Zs30 (Nat.le_of_eq g33.symm)
      have sz36 : h0.size ≤ b33 := Nat.le_trans KC30.1 (Nat.le_of_eq g33.symm)
      have ltS37_0 := E_b26.lt
      have CA37 : CHr Z own_EL s.vm h26 s.vm h33 := CHr.ext E33 CH29.1
      have CH37 : CHr Z own_EL s.vm h0 s.vm h33 := CH29.trans CA37
      have Sf37_ltS37_0 := CA37.safe ltS37_0 Sn31
      have S_CS : Sta Z h33 "java/lang/String" "COMPACT_STRINGS" "Z" (.int z0) := S_CS.ext E33
      have V_1 : Arv Z h33 b1 k1 .char (3 : Int32) [(.int x0), (.int x1), (.int x2)] (.int (0 : Int32)) := V_1.ext E33
      have E_b26 : Exa Z h33 b26 "java/lang/String" := E_b26.ext E33
      have F_value_b26 : Fld Z h33 b26 "java/lang/String" "value" "[B" .null := F_value_b26.ext E33
      have F_coder_b26 : Fld Z h33 b26 "java/lang/String" "coder" "B" (.int (0 : Int32)) := F_coder_b26.ext E33
      have Zs38 : n0 ≤ h33.size := Nat.le_trans Zs30 E33.1
      have KC38 : Keep h0 h33 [] := KC30.ext E33
      have V_b33 : Arv Z h33 b33 k33 .char (1 : Int32) [(.int (0 : Int32))] (.int (0 : Int32)) := (Arv.new A33 (by decide)).pad (pad_rep [] (.int (0 : Int32)) 1)
      have Sn39 := Safe.ext E33 CH29.1 (Safe.new (Nat.le_of_eq g33.symm))
      have pre40 : ∀ tgt, Steps p.tables e below (T33.setTop (mkF m 31 #[.val (.ref b1), .val (.int l1)] [(.int (0 : Int32)), (.ref b1), (.int (0 : Int32)), (.ref b33), (.ref b33), (.ref b26), (.ref b26)])) tgt → Steps p.tables e below (s₁.setTop (entryFrame m #[(.ref b1), (.int l1)] 2)) tgt := by
        intro tgt kk
        refine pre32 tgt ?_
        refine st33 _ ?_
        show Steps p.tables e below (T33.setTop (mkF m 27 #[.val (.ref b1), .val (.int l1)] [(.ref b33), (.ref b26), (.ref b26)])) _
        refine XS.dup X33.here hx rfl (hb hby d2_27) rfl rfl ?_
        show Steps p.tables e below (T33.setTop (mkF m 28 #[.val (.ref b1), .val (.int l1)] [(.ref b33), (.ref b33), (.ref b26), (.ref b26)])) _
        refine XS.iconst X33.here hx rfl (hb hby d2_28) ?_
        show Steps p.tables e below (T33.setTop (mkF m 29 #[.val (.ref b1), .val (.int l1)] [(.int (0 : Int32)), (.ref b33), (.ref b33), (.ref b26), (.ref b26)])) _
        refine XS.aloadN X33.here hx rfl (hb hby d2_29) rfl rfl ?_
        show Steps p.tables e below (T33.setTop (mkF m 30 #[.val (.ref b1), .val (.int l1)] [(.ref b1), (.int (0 : Int32)), (.ref b33), (.ref b33), (.ref b26), (.ref b26)])) _
        refine XS.iconst X33.here hx rfl (hb hby d2_30) ?_
        show Steps p.tables e below (T33.setTop (mkF m 31 #[.val (.ref b1), .val (.int l1)] [(.int (0 : Int32)), (.ref b1), (.int (0 : Int32)), (.ref b33), (.ref b33), (.ref b26), (.ref b26)])) _
        exact kk
      obtain ⟨cl41, Ar41, aq41, aS41, aN41, aH41, aG41⟩ := id V_1
      have hin42 : ¬ ((0 : Int32) < 0 ∨ cl41.slots.size ≤ ((0 : Int32)).toNatClampNeg) := inb_of aS41 ⟨by decide, by decide⟩
      have hat42 : cl41.slots[((0 : Int32)).toNatClampNeg]? = some (.int x0) := Has.at aH41 hin42 rfl
      have pre43 : ∀ tgt, Steps p.tables e below (T33.setTop (mkF m 32 #[.val (.ref b1), .val (.int l1)] [(.int x0), (.int (0 : Int32)), (.ref b33), (.ref b33), (.ref b26), (.ref b26)])) tgt → Steps p.tables e below (s₁.setTop (entryFrame m #[(.ref b1), (.int l1)] 2)) tgt := by
        intro tgt kk
        refine pre40 tgt ?_
        refine X33.caload hx (j := (0 : Int32)) (v := (.int x0)) (by rw [e33]; exact Ar41.1) (State.isArrayOf_alike hZ.alike Ar41.2.1) Ar41.2.2 hin42 hat42 (g := (mkF m 31 #[.val (.ref b1), .val (.int l1)] [(.int (0 : Int32)), (.ref b1), (.int (0 : Int32)), (.ref b33), (.ref b33), (.ref b26), (.ref b26)])) rfl rfl (hb hby d2_31) _ ?_
        show Steps p.tables e below (T33.setTop (mkF m 32 #[.val (.ref b1), .val (.int l1)] [(.int x0), (.int (0 : Int32)), (.ref b33), (.ref b33), (.ref b26), (.ref b26)])) _
        exact kk
      obtain ⟨cl44, Ar44, aq44, aS44, aN44, aH44, aG44⟩ := id V_b33
      have hin45 : ¬ ((0 : Int32) < 0 ∨ cl44.slots.size ≤ ((0 : Int32)).toNatClampNeg) := inb_of aS44 ⟨by decide, by decide⟩
      obtain ⟨T45, h45, X45, e45, W45, st45⟩ := stC X33 hx hZ e33 Ar44 (j := (0 : Int32)) hin45 (g := (mkF m 32 #[.val (.ref b1), .val (.int l1)] [(.int x0), (.int (0 : Int32)), (.ref b33), (.ref b33), (.ref b26), (.ref b26)])) rfl rfl (hb hby d2_32)
      have N45 := Fr.snoc X45 N0 gn36
      have Vq45 : Arv Z h45 b33 k33 .char (1 : Int32) [(.int (nar .char x0))] (.int (0 : Int32)) := Arv.set Ar44 aq44 aS44 aN44 aH44 aG44 (fits_nar_char _) W45 0 rfl (Nat.le_of_ble_eq_true rfl)
      have ltS46_0 := E_b26.lt
      have ltS46_1 := V_b33.lt
      have CA46 : CHr Z own_EL s.vm h33 s.vm h45 := CHr.wr W45 Sn39 CH37.1
      have CH46 : CHr Z own_EL s.vm h0 s.vm h45 := CH37.trans CA46
      have Sf46_ltS46_0 := CA46.safe ltS46_0 Sf37_ltS37_0
      have Sf46_ltS46_1 := CA46.safe ltS46_1 Sn39
      have S_CS : Sta Z h45 "java/lang/String" "COMPACT_STRINGS" "Z" (.int z0) := S_CS.wr W45
      have V_1 : Arv Z h45 b1 k1 .char (3 : Int32) [(.int x0), (.int x1), (.int x2)] (.int (0 : Int32)) := V_1.other W45 ne34
      have E_b26 : Exa Z h45 b26 "java/lang/String" := E_b26.wr W45
      have F_value_b26 : Fld Z h45 b26 "java/lang/String" "value" "[B" .null := F_value_b26.other W45 (Or.inl ne35)
      have F_coder_b26 : Fld Z h45 b26 "java/lang/String" "coder" "B" (.int (0 : Int32)) := F_coder_b26.other W45 (Or.inl ne35)
      have Zs47 : n0 ≤ h45.size := Nat.le_trans Zs38 (Keep.of_wr W45).1
      have KC47 : Keep h0 h45 [] := KC38.wr W45 (Or.inr sz36)
      have V_b33 := Vq45
      have pre48 : ∀ tgt, Steps p.tables e below (T45.setTop (mkF m 33 #[.val (.ref b1), .val (.int l1)] [(.ref b33), (.ref b26), (.ref b26)])) tgt → Steps p.tables e below (s₁.setTop (entryFrame m #[(.ref b1), (.int l1)] 2)) tgt := by
        intro tgt kk
        refine pre43 tgt ?_
        refine st45 _ ?_
        show Steps p.tables e below (T45.setTop (mkF m 33 #[.val (.ref b1), .val (.int l1)] [(.ref b33), (.ref b26), (.ref b26)])) _
        exact kk
      have hwv49 : ∀ d ∈ StrChars.Road.words, d.before a0 Z = true := fun d hd => hw d ((by decide +kernel : ∀ d ∈ StrChars.Road.words, d ∈ tables_1) d hd)
      have lt50_0 := V_1.lt
      have lt50_1 := E_b26.lt
      have lt50_2 := V_b33.lt
      obtain ⟨_, _, ⟨T51, L51, k51, n51⟩, -, X51, ⟨Lc51, hQ51, l51, y51, z51⟩, st51⟩ := X45.specialBack hx (y := (⟨"java/lang/String", "<init>", "([C)V"⟩ : MethodName)) rfl hown (mvT hZ (hw _ (List.mem_of_getElem? (i := 12) rfl))) (mvT hZ (hw _ (List.mem_of_getElem? (i := 13) rfl))) (mvT hZ (hw _ (List.mem_of_getElem? (i := 14) rfl))) (by decide) (StrChars.Road.backV (W := 1) hZ hwv49 (kI := 4) (hw _ (List.mem_of_getElem? (i := 10) rfl)) (cs := [(nar .char x0)]) (bs := ([(nar .char x0)] : List Int32).map (fun c => c.toInt8.toInt32)) (n := 1) (n0 := n0) gn28 Zs47 E_b26 F_value_b26 F_coder_b26 V_b33 S_CS hz rfl rfl (by decide) (by decide) (own_pS (own_nn hp0) own_p0) rfl (by decide) (by decide)) (g := (mkF m 33 #[.val (.ref b1), .val (.int l1)] [(.ref b33), (.ref b26), (.ref b26)])) rfl (by rw [hml]; rfl) (Steps.refl _) (a := b26) (argsL := [(.ref b33)]) (rest := [(.ref b26)]) (lenOf pd___C_V rfl) rfl (by show 2 * 0 + _ ≤ _; exact Nat.le_of_eq rfl) (hb hby d2_33) (fun _ _ => ⟨rfl, e45, (by decide : 2 + 1 ≤ _), (by decide : 5 + 1 ≤ _)⟩)
      dsimp only [Pt.U, Pt.locs, Pt.cells, Pt.slots] at X51 l51 y51 z51 st51 hQ51
      subst l51 y51 z51
      obtain ⟨rfl, N51q, K51, -, Qc51, tt51, kk51, gt51, st_51, -, Qv51, Qa51⟩ := hQ51
      have N51 := Fr.app N45 N51q
      have ltS52_0 := E_b26.lt
      have ltS52_1 := V_b33.lt
      have CA52 : CHr Z own_EL s.vm h45 s.vm T51.heap := CHr.keep K51 (sfS Sf46_ltS46_0 sf0) CH46.1
      have CH52 : CHr Z own_EL s.vm h0 s.vm T51.heap := CH46.trans CA52
      have Sf52_ltS52_0 := CA52.safe ltS52_0 Sf46_ltS46_0
      have Sf52_ltS52_1 := CA52.safe ltS52_1 Sf46_ltS46_1
      have pl54 := own_plain_Exa E_b26
      have S_CS : Sta Z T51.heap "java/lang/String" "COMPACT_STRINGS" "Z" (.int z0) := own_sta_keep S_CS K51 (allS pl54 all0)
      have V_1 : Arv Z T51.heap b1 k1 .char (3 : Int32) [(.int x0), (.int x1), (.int x2)] (.int (0 : Int32)) := V_1.keep K51 (ninS ne27 nin0)
      have E_b26 : Exa Z T51.heap b26 "java/lang/String" := E_b26.keep K51
      have V_b33 : Arv Z T51.heap b33 k33 .char (1 : Int32) [(.int (nar .char x0))] (.int (0 : Int32)) := V_b33.keep K51 (ninS (Ne.symm ne35) nin0)
      have Zs53 : n0 ≤ T51.heap.size := Nat.le_trans Zs47 K51.1
      have KC53 : Keep h0 T51.heap [] := KC47.trans K51 (allS (Or.inr sz28) all0)
      have net51_lt50_0 : b1 ≠ tt51 := Nat.ne_of_lt (Nat.lt_of_lt_of_le lt50_0 st_51)
      have net51_lt50_1 : b26 ≠ tt51 := Nat.ne_of_lt (Nat.lt_of_lt_of_le lt50_1 st_51)
      have net51_lt50_2 : b33 ≠ tt51 := Nat.ne_of_lt (Nat.lt_of_lt_of_le lt50_2 st_51)
      have szt51 : h0.size ≤ tt51 := Nat.le_trans KC47.1 st_51
      have Fv_b26 : Fld Z T51.heap b26 "java/lang/String" "value" "[B" (.ref tt51) := Qv51
      have Fc_b26 : Fld Z T51.heap b26 "java/lang/String" "coder" "B" (.int (0 : Int32)) := Qc51
      have V_b26 : Arv Z T51.heap tt51 kk51 .byte (1 : Int32) ((([(nar .char x0)] : List Int32).map (fun c => c.toInt8.toInt32)).map Value.int) (.int (0 : Int32)) := Qa51
      obtain ⟨fs, hr, hrun, hended, hR⟩ := Stand.leaveW (s := s) (vm₁ := s.vm) X51 (n := 0) ((State.WarmedH.refl s).since 0) (Nat.zero_le _) (v := some (.ref b26)) (fun h => by rw [Bd.returns] at h; cases h)
      refine ⟨_, _, pre48 _ ?_, hrun, hended, _, _, rfl, ?_, ?_, hR.1, hR.2.1, hR.2.2.1, hR.2.2.2.mono (by decide) (by decide)⟩
      · skip
        refine st51.trans ?_
        show Steps p.tables e below (T51.setTop (mkF m 36 #[.val (.ref b1), .val (.int l1)] [(.ref b26)])) _
        exact retOut X51 hx Bd.returns rfl (Or.inr (Or.inr (Or.inr (Or.inr ⟨rfl, rfl, rfl⟩)))) (hb hby d2_36) hr
      · show QMk Z b1 k1 l1 x0 x1 x2 z0 h0 n0 _ T51.heap _
        have eq : own_cs l1 x0 x1 x2 = [x0] := by unfold own_cs; rw [if_neg hc1_2, if_pos hc17_24]
        rw [own_nar2 hp0] at V_b26
        refine ⟨b26, tt51, kk51, rfl, N51, KC53, sz28, E_b26, Fv_b26, Fc_b26, ?_⟩
        rw [eq]; exact V_b26
      · show CHr Z own_EL s.vm s.heap T51.vm T51.heap
        rw [hh]
        exact CH52.trans (CHv.at (vm0 := s.vm) (s := s) X51 hZ hEL CH52.1)
    · skip
      have pre55 : ∀ tgt, Steps p.tables e below (s₁.setTop (mkF m 39 #[.val (.ref b1), .val (.int l1)] [(.int (2 : Int32)), (.int l1)])) tgt → Steps p.tables e below (s₁.setTop (entryFrame m #[(.ref b1), (.int l1)] 2)) tgt := by
        intro tgt kk
        refine pre23 tgt ?_
        refine XS.icmpYes X0.here hx rfl (pc0 := 17) (pc' := 37) rfl (hb hby d2_17) rfl (XT.ii_ne_t hc17_24) (by decide) (by decide) ?_
        show Steps p.tables e below (s₁.setTop (mkF m 37 #[.val (.ref b1), .val (.int l1)] [])) _
        refine XS.iloadN X0.here hx rfl (hb hby d2_37) rfl ?_
        show Steps p.tables e below (s₁.setTop (mkF m 38 #[.val (.ref b1), .val (.int l1)] [(.int l1)])) _
        refine XS.iconst X0.here hx rfl (hb hby d2_38) ?_
        show Steps p.tables e below (s₁.setTop (mkF m 39 #[.val (.ref b1), .val (.int l1)] [(.int (2 : Int32)), (.int l1)])) _
        exact kk
      by_cases hc39_56 : l1 = (2 : Int32)
      · skip
        have pre57 : ∀ tgt, Steps p.tables e below (s₁.setTop (mkF m 42 #[.val (.ref b1), .val (.int l1)] [])) tgt → Steps p.tables e below (s₁.setTop (entryFrame m #[(.ref b1), (.int l1)] 2)) tgt := by
          intro tgt kk
          refine pre55 tgt ?_
          refine XS.icmpNo X0.here hx rfl (hb hby d2_39) rfl (XT.ii_ne_f hc39_56) ?_
          show Steps p.tables e below (s₁.setTop (mkF m 42 #[.val (.ref b1), .val (.int l1)] [])) _
          exact kk
        obtain ⟨T58, h58, X58, e58, E58, A58, D58, -, st58⟩ := newO X0 hx hZ hown (hw _ (List.mem_of_getElem? (i := 9) rfl)) (hw _ (List.mem_of_getElem? (i := 10) rfl)) (hw _ (List.mem_of_getElem? (i := 11) rfl)) e0 (g := (mkF m 42 #[.val (.ref b1), .val (.int l1)] [])) rfl (hb hby d2_42) (by decide) (by decide)
        obtain ⟨b58, g58⟩ : ∃ z, z = h0.size := ⟨_, rfl⟩
        rw [← g58] at A58 D58 st58
        have ne59 : b1 ≠ b58 := Nat.ne_of_lt (Nat.lt_of_lt_of_le V_1.lt (Nat.le_of_eq g58.symm))
        have gn60 : n0 ≤ b58 := Nat.le_trans Z0 (Nat.le_of_eq g58.symm)
        have sz60 : h0.size ≤ b58 := Nat.le_trans KC0.1 (Nat.le_of_eq g58.symm)
        have CA61 : CHr Z own_EL s.vm h0 s.vm h58 := CHr.ext E58 CH0.1
        have CH61 : CHr Z own_EL s.vm h0 s.vm h58 := CH0.trans CA61
        have S_CS : Sta Z h58 "java/lang/String" "COMPACT_STRINGS" "Z" (.int z0) := S_CS.ext E58
        have V_1 : Arv Z h58 b1 k1 .char (3 : Int32) [(.int x0), (.int x1), (.int x2)] (.int (0 : Int32)) := V_1.ext E58
        have Zs62 : n0 ≤ h58.size := Nat.le_trans Z0 E58.1
        have KC62 : Keep h0 h58 [] := KC0.ext E58
        have E_b58 : Exa Z h58 b58 "java/lang/String" := A58
        have F_value_b58 : Fld Z h58 b58 "java/lang/String" "value" "[B" .null := D58 (Or.inr (hw _ (List.mem_of_getElem? (i := 24) rfl))) (ty := (.array .byte)) (by decide)
        have F_coder_b58 : Fld Z h58 b58 "java/lang/String" "coder" "B" (.int (0 : Int32)) := D58 (Or.inr (hw _ (List.mem_of_getElem? (i := 25) rfl))) (ty := .byte) (by decide)
        have Sn63 := Safe.ext E58 CH0.1 (Safe.new (Nat.le_of_eq g58.symm))
        have pre64 : ∀ tgt, Steps p.tables e below (T58.setTop (mkF m 47 #[.val (.ref b1), .val (.int l1)] [(.int (2 : Int32)), (.ref b58), (.ref b58)])) tgt → Steps p.tables e below (s₁.setTop (entryFrame m #[(.ref b1), (.int l1)] 2)) tgt := by
          intro tgt kk
          refine pre57 tgt ?_
          refine st58 _ ?_
          show Steps p.tables e below (T58.setTop (mkF m 45 #[.val (.ref b1), .val (.int l1)] [(.ref b58)])) _
          refine XS.dup X58.here hx rfl (hb hby d2_45) rfl rfl ?_
          show Steps p.tables e below (T58.setTop (mkF m 46 #[.val (.ref b1), .val (.int l1)] [(.ref b58), (.ref b58)])) _
          refine XS.iconst X58.here hx rfl (hb hby d2_46) ?_
          show Steps p.tables e below (T58.setTop (mkF m 47 #[.val (.ref b1), .val (.int l1)] [(.int (2 : Int32)), (.ref b58), (.ref b58)])) _
          exact kk
        obtain ⟨T65, h65, k65, X65, e65, E65, A65, st65⟩ := newP X58 hx hZ (hw _ (List.mem_of_getElem? (i := 0) rfl)) e58 (g := (mkF m 47 #[.val (.ref b1), .val (.int l1)] [(.int (2 : Int32)), (.ref b58), (.ref b58)])) rfl (hb hby d2_47) rfl (by decide) (cap := 2) (by decide) (by decide) (by decide) (by decide)
        obtain ⟨b65, g65⟩ : ∃ z, z = h58.size := ⟨_, rfl⟩
        rw [← g65] at A65 st65
        have ne66 : b1 ≠ b65 := Nat.ne_of_lt (Nat.lt_of_lt_of_le V_1.lt (Nat.le_of_eq g65.symm))
        have ne67 : b58 ≠ b65 := Nat.ne_of_lt (Nat.lt_of_lt_of_le E_b58.lt (Nat.le_of_eq g65.symm))
        have gn68 : n0 ≤ b65 := Nat.le_trans Zs62 (Nat.le_of_eq g65.symm)
        have sz68 : h0.size ≤ b65 := Nat.le_trans KC62.1 (Nat.le_of_eq g65.symm)
        have ltS69_0 := E_b58.lt
        have CA69 : CHr Z own_EL s.vm h58 s.vm h65 := CHr.ext E65 CH61.1
        have CH69 : CHr Z own_EL s.vm h0 s.vm h65 := CH61.trans CA69
        have Sf69_ltS69_0 := CA69.safe ltS69_0 Sn63
        have S_CS : Sta Z h65 "java/lang/String" "COMPACT_STRINGS" "Z" (.int z0) := S_CS.ext E65
        have V_1 : Arv Z h65 b1 k1 .char (3 : Int32) [(.int x0), (.int x1), (.int x2)] (.int (0 : Int32)) := V_1.ext E65
        have E_b58 : Exa Z h65 b58 "java/lang/String" := E_b58.ext E65
        have F_value_b58 : Fld Z h65 b58 "java/lang/String" "value" "[B" .null := F_value_b58.ext E65
        have F_coder_b58 : Fld Z h65 b58 "java/lang/String" "coder" "B" (.int (0 : Int32)) := F_coder_b58.ext E65
        have Zs70 : n0 ≤ h65.size := Nat.le_trans Zs62 E65.1
        have KC70 : Keep h0 h65 [] := KC62.ext E65
        have V_b65 : Arv Z h65 b65 k65 .char (2 : Int32) [(.int (0 : Int32)), (.int (0 : Int32))] (.int (0 : Int32)) := (Arv.new A65 (by decide)).pad (pad_rep [] (.int (0 : Int32)) 2)
        have Sn71 := Safe.ext E65 CH61.1 (Safe.new (Nat.le_of_eq g65.symm))
        have pre72 : ∀ tgt, Steps p.tables e below (T65.setTop (mkF m 53 #[.val (.ref b1), .val (.int l1)] [(.int (0 : Int32)), (.ref b1), (.int (0 : Int32)), (.ref b65), (.ref b65), (.ref b58), (.ref b58)])) tgt → Steps p.tables e below (s₁.setTop (entryFrame m #[(.ref b1), (.int l1)] 2)) tgt := by
          intro tgt kk
          refine pre64 tgt ?_
          refine st65 _ ?_
          show Steps p.tables e below (T65.setTop (mkF m 49 #[.val (.ref b1), .val (.int l1)] [(.ref b65), (.ref b58), (.ref b58)])) _
          refine XS.dup X65.here hx rfl (hb hby d2_49) rfl rfl ?_
          show Steps p.tables e below (T65.setTop (mkF m 50 #[.val (.ref b1), .val (.int l1)] [(.ref b65), (.ref b65), (.ref b58), (.ref b58)])) _
          refine XS.iconst X65.here hx rfl (hb hby d2_50) ?_
          show Steps p.tables e below (T65.setTop (mkF m 51 #[.val (.ref b1), .val (.int l1)] [(.int (0 : Int32)), (.ref b65), (.ref b65), (.ref b58), (.ref b58)])) _
          refine XS.aloadN X65.here hx rfl (hb hby d2_51) rfl rfl ?_
          show Steps p.tables e below (T65.setTop (mkF m 52 #[.val (.ref b1), .val (.int l1)] [(.ref b1), (.int (0 : Int32)), (.ref b65), (.ref b65), (.ref b58), (.ref b58)])) _
          refine XS.iconst X65.here hx rfl (hb hby d2_52) ?_
          show Steps p.tables e below (T65.setTop (mkF m 53 #[.val (.ref b1), .val (.int l1)] [(.int (0 : Int32)), (.ref b1), (.int (0 : Int32)), (.ref b65), (.ref b65), (.ref b58), (.ref b58)])) _
          exact kk
        obtain ⟨cl73, Ar73, aq73, aS73, aN73, aH73, aG73⟩ := id V_1
        have hin74 : ¬ ((0 : Int32) < 0 ∨ cl73.slots.size ≤ ((0 : Int32)).toNatClampNeg) := inb_of aS73 ⟨by decide, by decide⟩
        have hat74 : cl73.slots[((0 : Int32)).toNatClampNeg]? = some (.int x0) := Has.at aH73 hin74 rfl
        have pre75 : ∀ tgt, Steps p.tables e below (T65.setTop (mkF m 54 #[.val (.ref b1), .val (.int l1)] [(.int x0), (.int (0 : Int32)), (.ref b65), (.ref b65), (.ref b58), (.ref b58)])) tgt → Steps p.tables e below (s₁.setTop (entryFrame m #[(.ref b1), (.int l1)] 2)) tgt := by
          intro tgt kk
          refine pre72 tgt ?_
          refine X65.caload hx (j := (0 : Int32)) (v := (.int x0)) (by rw [e65]; exact Ar73.1) (State.isArrayOf_alike hZ.alike Ar73.2.1) Ar73.2.2 hin74 hat74 (g := (mkF m 53 #[.val (.ref b1), .val (.int l1)] [(.int (0 : Int32)), (.ref b1), (.int (0 : Int32)), (.ref b65), (.ref b65), (.ref b58), (.ref b58)])) rfl rfl (hb hby d2_53) _ ?_
          show Steps p.tables e below (T65.setTop (mkF m 54 #[.val (.ref b1), .val (.int l1)] [(.int x0), (.int (0 : Int32)), (.ref b65), (.ref b65), (.ref b58), (.ref b58)])) _
          exact kk
        obtain ⟨cl76, Ar76, aq76, aS76, aN76, aH76, aG76⟩ := id V_b65
        have hin77 : ¬ ((0 : Int32) < 0 ∨ cl76.slots.size ≤ ((0 : Int32)).toNatClampNeg) := inb_of aS76 ⟨by decide, by decide⟩
        obtain ⟨T77, h77, X77, e77, W77, st77⟩ := stC X65 hx hZ e65 Ar76 (j := (0 : Int32)) hin77 (g := (mkF m 54 #[.val (.ref b1), .val (.int l1)] [(.int x0), (.int (0 : Int32)), (.ref b65), (.ref b65), (.ref b58), (.ref b58)])) rfl rfl (hb hby d2_54)
        have N77 := Fr.snoc X77 N0 gn68
        have Vq77 : Arv Z h77 b65 k65 .char (2 : Int32) [(.int (nar .char x0)), (.int (0 : Int32))] (.int (0 : Int32)) := Arv.set Ar76 aq76 aS76 aN76 aH76 aG76 (fits_nar_char _) W77 0 rfl (Nat.le_of_ble_eq_true rfl)
        have ltS78_0 := E_b58.lt
        have ltS78_1 := V_b65.lt
        have CA78 : CHr Z own_EL s.vm h65 s.vm h77 := CHr.wr W77 Sn71 CH69.1
        have CH78 : CHr Z own_EL s.vm h0 s.vm h77 := CH69.trans CA78
        have Sf78_ltS78_0 := CA78.safe ltS78_0 Sf69_ltS69_0
        have Sf78_ltS78_1 := CA78.safe ltS78_1 Sn71
        have S_CS : Sta Z h77 "java/lang/String" "COMPACT_STRINGS" "Z" (.int z0) := S_CS.wr W77
        have V_1 : Arv Z h77 b1 k1 .char (3 : Int32) [(.int x0), (.int x1), (.int x2)] (.int (0 : Int32)) := V_1.other W77 ne66
        have E_b58 : Exa Z h77 b58 "java/lang/String" := E_b58.wr W77
        have F_value_b58 : Fld Z h77 b58 "java/lang/String" "value" "[B" .null := F_value_b58.other W77 (Or.inl ne67)
        have F_coder_b58 : Fld Z h77 b58 "java/lang/String" "coder" "B" (.int (0 : Int32)) := F_coder_b58.other W77 (Or.inl ne67)
        have Zs79 : n0 ≤ h77.size := Nat.le_trans Zs70 (Keep.of_wr W77).1
        have KC79 : Keep h0 h77 [] := KC70.wr W77 (Or.inr sz68)
        have V_b65 := Vq77
        have pre80 : ∀ tgt, Steps p.tables e below (T77.setTop (mkF m 59 #[.val (.ref b1), .val (.int l1)] [(.int (1 : Int32)), (.ref b1), (.int (1 : Int32)), (.ref b65), (.ref b65), (.ref b58), (.ref b58)])) tgt → Steps p.tables e below (s₁.setTop (entryFrame m #[(.ref b1), (.int l1)] 2)) tgt := by
          intro tgt kk
          refine pre75 tgt ?_
          refine st77 _ ?_
          show Steps p.tables e below (T77.setTop (mkF m 55 #[.val (.ref b1), .val (.int l1)] [(.ref b65), (.ref b58), (.ref b58)])) _
          refine XS.dup X77.here hx rfl (hb hby d2_55) rfl rfl ?_
          show Steps p.tables e below (T77.setTop (mkF m 56 #[.val (.ref b1), .val (.int l1)] [(.ref b65), (.ref b65), (.ref b58), (.ref b58)])) _
          refine XS.iconst X77.here hx rfl (hb hby d2_56) ?_
          show Steps p.tables e below (T77.setTop (mkF m 57 #[.val (.ref b1), .val (.int l1)] [(.int (1 : Int32)), (.ref b65), (.ref b65), (.ref b58), (.ref b58)])) _
          refine XS.aloadN X77.here hx rfl (hb hby d2_57) rfl rfl ?_
          show Steps p.tables e below (T77.setTop (mkF m 58 #[.val (.ref b1), .val (.int l1)] [(.ref b1), (.int (1 : Int32)), (.ref b65), (.ref b65), (.ref b58), (.ref b58)])) _
          refine XS.iconst X77.here hx rfl (hb hby d2_58) ?_
          show Steps p.tables e below (T77.setTop (mkF m 59 #[.val (.ref b1), .val (.int l1)] [(.int (1 : Int32)), (.ref b1), (.int (1 : Int32)), (.ref b65), (.ref b65), (.ref b58), (.ref b58)])) _
          exact kk
        obtain ⟨cl81, Ar81, aq81, aS81, aN81, aH81, aG81⟩ := id V_1
        have hin82 : ¬ ((1 : Int32) < 0 ∨ cl81.slots.size ≤ ((1 : Int32)).toNatClampNeg) := inb_of aS81 ⟨by decide, by decide⟩
        have hat82 : cl81.slots[((1 : Int32)).toNatClampNeg]? = some (.int x1) := Has.at aH81 hin82 rfl
        have pre83 : ∀ tgt, Steps p.tables e below (T77.setTop (mkF m 60 #[.val (.ref b1), .val (.int l1)] [(.int x1), (.int (1 : Int32)), (.ref b65), (.ref b65), (.ref b58), (.ref b58)])) tgt → Steps p.tables e below (s₁.setTop (entryFrame m #[(.ref b1), (.int l1)] 2)) tgt := by
          intro tgt kk
          refine pre80 tgt ?_
          refine X77.caload hx (j := (1 : Int32)) (v := (.int x1)) (by rw [e77]; exact Ar81.1) (State.isArrayOf_alike hZ.alike Ar81.2.1) Ar81.2.2 hin82 hat82 (g := (mkF m 59 #[.val (.ref b1), .val (.int l1)] [(.int (1 : Int32)), (.ref b1), (.int (1 : Int32)), (.ref b65), (.ref b65), (.ref b58), (.ref b58)])) rfl rfl (hb hby d2_59) _ ?_
          show Steps p.tables e below (T77.setTop (mkF m 60 #[.val (.ref b1), .val (.int l1)] [(.int x1), (.int (1 : Int32)), (.ref b65), (.ref b65), (.ref b58), (.ref b58)])) _
          exact kk
        obtain ⟨cl84, Ar84, aq84, aS84, aN84, aH84, aG84⟩ := id V_b65
        have hin85 : ¬ ((1 : Int32) < 0 ∨ cl84.slots.size ≤ ((1 : Int32)).toNatClampNeg) := inb_of aS84 ⟨by decide, by decide⟩
        obtain ⟨T85, h85, X85, e85, W85, st85⟩ := stC X77 hx hZ e77 Ar84 (j := (1 : Int32)) hin85 (g := (mkF m 60 #[.val (.ref b1), .val (.int l1)] [(.int x1), (.int (1 : Int32)), (.ref b65), (.ref b65), (.ref b58), (.ref b58)])) rfl rfl (hb hby d2_60)
        have N85 := Fr.snoc X85 N77 gn68
        have Vq85 : Arv Z h85 b65 k65 .char (2 : Int32) [(.int (nar .char x0)), (.int (nar .char x1))] (.int (0 : Int32)) := Arv.set Ar84 aq84 aS84 aN84 aH84 aG84 (fits_nar_char _) W85 1 rfl (Nat.le_of_ble_eq_true rfl)
        have ltS86_0 := E_b58.lt
        have ltS86_1 := V_b65.lt
        have CA86 : CHr Z own_EL s.vm h77 s.vm h85 := CHr.wr W85 Sf78_ltS78_1 CH78.1
        have CH86 : CHr Z own_EL s.vm h0 s.vm h85 := CH78.trans CA86
        have Sf86_ltS86_0 := CA86.safe ltS86_0 Sf78_ltS78_0
        have Sf86_ltS86_1 := CA86.safe ltS86_1 Sf78_ltS78_1
        have S_CS : Sta Z h85 "java/lang/String" "COMPACT_STRINGS" "Z" (.int z0) := S_CS.wr W85
        have V_1 : Arv Z h85 b1 k1 .char (3 : Int32) [(.int x0), (.int x1), (.int x2)] (.int (0 : Int32)) := V_1.other W85 ne66
        have E_b58 : Exa Z h85 b58 "java/lang/String" := E_b58.wr W85
        have F_value_b58 : Fld Z h85 b58 "java/lang/String" "value" "[B" .null := F_value_b58.other W85 (Or.inl ne67)
        have F_coder_b58 : Fld Z h85 b58 "java/lang/String" "coder" "B" (.int (0 : Int32)) := F_coder_b58.other W85 (Or.inl ne67)
        have Zs87 : n0 ≤ h85.size := Nat.le_trans Zs79 (Keep.of_wr W85).1
        have KC87 : Keep h0 h85 [] := KC79.wr W85 (Or.inr sz68)
        have V_b65 := Vq85
        have pre88 : ∀ tgt, Steps p.tables e below (T85.setTop (mkF m 61 #[.val (.ref b1), .val (.int l1)] [(.ref b65), (.ref b58), (.ref b58)])) tgt → Steps p.tables e below (s₁.setTop (entryFrame m #[(.ref b1), (.int l1)] 2)) tgt := by
          intro tgt kk
          refine pre83 tgt ?_
          refine st85 _ ?_
          show Steps p.tables e below (T85.setTop (mkF m 61 #[.val (.ref b1), .val (.int l1)] [(.ref b65), (.ref b58), (.ref b58)])) _
          exact kk
        have hwv89 : ∀ d ∈ StrChars.Road.words, d.before a0 Z = true := fun d hd => hw d ((by decide +kernel : ∀ d ∈ StrChars.Road.words, d ∈ tables_1) d hd)
        have lt90_0 := V_1.lt
        have lt90_1 := E_b58.lt
        have lt90_2 := V_b65.lt
        obtain ⟨_, _, ⟨T91, L91, k91, n91⟩, -, X91, ⟨Lc91, hQ91, l91, y91, z91⟩, st91⟩ := X85.specialBack hx (y := (⟨"java/lang/String", "<init>", "([C)V"⟩ : MethodName)) rfl hown (mvT hZ (hw _ (List.mem_of_getElem? (i := 12) rfl))) (mvT hZ (hw _ (List.mem_of_getElem? (i := 13) rfl))) (mvT hZ (hw _ (List.mem_of_getElem? (i := 14) rfl))) (by decide) (StrChars.Road.backV (W := 1) hZ hwv89 (kI := 4) (hw _ (List.mem_of_getElem? (i := 10) rfl)) (cs := [(nar .char x0), (nar .char x1)]) (bs := ([(nar .char x0), (nar .char x1)] : List Int32).map (fun c => c.toInt8.toInt32)) (n := 2) (n0 := n0) gn60 Zs87 E_b58 F_value_b58 F_coder_b58 V_b65 S_CS hz rfl rfl (by decide) (by decide) (own_pS (own_nn hp0) (own_pS (own_nn hp1) own_p0)) rfl (by decide) (by decide)) (g := (mkF m 61 #[.val (.ref b1), .val (.int l1)] [(.ref b65), (.ref b58), (.ref b58)])) rfl (by rw [hml]; rfl) (Steps.refl _) (a := b58) (argsL := [(.ref b65)]) (rest := [(.ref b58)]) (lenOf pd___C_V rfl) rfl (by show 2 * 0 + _ ≤ _; exact Nat.le_of_eq rfl) (hb hby d2_61) (fun _ _ => ⟨rfl, e85, (by decide : 2 + 1 ≤ _), (by decide : 6 + 2 ≤ _)⟩)
        dsimp only [Pt.U, Pt.locs, Pt.cells, Pt.slots] at X91 l91 y91 z91 st91 hQ91
        subst l91 y91 z91
        obtain ⟨rfl, N91q, K91, -, Qc91, tt91, kk91, gt91, st_91, -, Qv91, Qa91⟩ := hQ91
        have N91 := Fr.app N85 N91q
        have ltS92_0 := E_b58.lt
        have ltS92_1 := V_b65.lt
        have CA92 : CHr Z own_EL s.vm h85 s.vm T91.heap := CHr.keep K91 (sfS Sf86_ltS86_0 sf0) CH86.1
        have CH92 : CHr Z own_EL s.vm h0 s.vm T91.heap := CH86.trans CA92
        have Sf92_ltS92_0 := CA92.safe ltS92_0 Sf86_ltS86_0
        have Sf92_ltS92_1 := CA92.safe ltS92_1 Sf86_ltS86_1
        have pl94 := own_plain_Exa E_b58
        have S_CS : Sta Z T91.heap "java/lang/String" "COMPACT_STRINGS" "Z" (.int z0) := own_sta_keep S_CS K91 (allS pl94 all0)
        have V_1 : Arv Z T91.heap b1 k1 .char (3 : Int32) [(.int x0), (.int x1), (.int x2)] (.int (0 : Int32)) := V_1.keep K91 (ninS ne59 nin0)
        have E_b58 : Exa Z T91.heap b58 "java/lang/String" := E_b58.keep K91
        have V_b65 : Arv Z T91.heap b65 k65 .char (2 : Int32) [(.int (nar .char x0)), (.int (nar .char x1))] (.int (0 : Int32)) := V_b65.keep K91 (ninS (Ne.symm ne67) nin0)
        have Zs93 : n0 ≤ T91.heap.size := Nat.le_trans Zs87 K91.1
        have KC93 : Keep h0 T91.heap [] := KC87.trans K91 (allS (Or.inr sz60) all0)
        have net91_lt90_0 : b1 ≠ tt91 := Nat.ne_of_lt (Nat.lt_of_lt_of_le lt90_0 st_91)
        have net91_lt90_1 : b58 ≠ tt91 := Nat.ne_of_lt (Nat.lt_of_lt_of_le lt90_1 st_91)
        have net91_lt90_2 : b65 ≠ tt91 := Nat.ne_of_lt (Nat.lt_of_lt_of_le lt90_2 st_91)
        have szt91 : h0.size ≤ tt91 := Nat.le_trans KC87.1 st_91
        have Fv_b58 : Fld Z T91.heap b58 "java/lang/String" "value" "[B" (.ref tt91) := Qv91
        have Fc_b58 : Fld Z T91.heap b58 "java/lang/String" "coder" "B" (.int (0 : Int32)) := Qc91
        have V_b58 : Arv Z T91.heap tt91 kk91 .byte (2 : Int32) ((([(nar .char x0), (nar .char x1)] : List Int32).map (fun c => c.toInt8.toInt32)).map Value.int) (.int (0 : Int32)) := Qa91
        obtain ⟨fs, hr, hrun, hended, hR⟩ := Stand.leaveW (s := s) (vm₁ := s.vm) X91 (n := 0) ((State.WarmedH.refl s).since 0) (Nat.zero_le _) (v := some (.ref b58)) (fun h => by rw [Bd.returns] at h; cases h)
        refine ⟨_, _, pre88 _ ?_, hrun, hended, _, _, rfl, ?_, ?_, hR.1, hR.2.1, hR.2.2.1, hR.2.2.2.mono (by decide) (by decide)⟩
        · skip
          refine st91.trans ?_
          show Steps p.tables e below (T91.setTop (mkF m 64 #[.val (.ref b1), .val (.int l1)] [(.ref b58)])) _
          exact retOut X91 hx Bd.returns rfl (Or.inr (Or.inr (Or.inr (Or.inr ⟨rfl, rfl, rfl⟩)))) (hb hby d2_64) hr
        · show QMk Z b1 k1 l1 x0 x1 x2 z0 h0 n0 _ T91.heap _
          have eq : own_cs l1 x0 x1 x2 = [x0, x1] := by unfold own_cs; rw [if_neg hc1_2, if_neg hc17_24, if_pos hc39_56]
          rw [own_nar2 hp0, own_nar2 hp1] at V_b58
          refine ⟨b58, tt91, kk91, rfl, N91, KC93, sz60, E_b58, Fv_b58, Fc_b58, ?_⟩
          rw [eq]; exact V_b58
        · show CHr Z own_EL s.vm s.heap T91.vm T91.heap
          rw [hh]
          exact CH92.trans (CHv.at (vm0 := s.vm) (s := s) X91 hZ hEL CH92.1)
      · skip
        have pre95 : ∀ tgt, Steps p.tables e below (s₁.setTop (mkF m 65 #[.val (.ref b1), .val (.int l1)] [])) tgt → Steps p.tables e below (s₁.setTop (entryFrame m #[(.ref b1), (.int l1)] 2)) tgt := by
          intro tgt kk
          refine pre55 tgt ?_
          refine XS.icmpYes X0.here hx rfl (pc0 := 39) (pc' := 65) rfl (hb hby d2_39) rfl (XT.ii_ne_t hc39_56) (by decide) (by decide) ?_
          show Steps p.tables e below (s₁.setTop (mkF m 65 #[.val (.ref b1), .val (.int l1)] [])) _
          exact kk
        obtain ⟨T96, h96, X96, e96, E96, A96, D96, -, st96⟩ := newO X0 hx hZ hown (hw _ (List.mem_of_getElem? (i := 9) rfl)) (hw _ (List.mem_of_getElem? (i := 10) rfl)) (hw _ (List.mem_of_getElem? (i := 11) rfl)) e0 (g := (mkF m 65 #[.val (.ref b1), .val (.int l1)] [])) rfl (hb hby d2_65) (by decide) (by decide)
        obtain ⟨b96, g96⟩ : ∃ z, z = h0.size := ⟨_, rfl⟩
        rw [← g96] at A96 D96 st96
        have ne97 : b1 ≠ b96 := Nat.ne_of_lt (Nat.lt_of_lt_of_le V_1.lt (Nat.le_of_eq g96.symm))
        have gn98 : n0 ≤ b96 := Nat.le_trans Z0 (Nat.le_of_eq g96.symm)
        have sz98 : h0.size ≤ b96 := Nat.le_trans KC0.1 (Nat.le_of_eq g96.symm)
        have CA99 : CHr Z own_EL s.vm h0 s.vm h96 := CHr.ext E96 CH0.1
        have CH99 : CHr Z own_EL s.vm h0 s.vm h96 := CH0.trans CA99
        have S_CS : Sta Z h96 "java/lang/String" "COMPACT_STRINGS" "Z" (.int z0) := S_CS.ext E96
        have V_1 : Arv Z h96 b1 k1 .char (3 : Int32) [(.int x0), (.int x1), (.int x2)] (.int (0 : Int32)) := V_1.ext E96
        have Zs100 : n0 ≤ h96.size := Nat.le_trans Z0 E96.1
        have KC100 : Keep h0 h96 [] := KC0.ext E96
        have E_b96 : Exa Z h96 b96 "java/lang/String" := A96
        have F_value_b96 : Fld Z h96 b96 "java/lang/String" "value" "[B" .null := D96 (Or.inr (hw _ (List.mem_of_getElem? (i := 24) rfl))) (ty := (.array .byte)) (by decide)
        have F_coder_b96 : Fld Z h96 b96 "java/lang/String" "coder" "B" (.int (0 : Int32)) := D96 (Or.inr (hw _ (List.mem_of_getElem? (i := 25) rfl))) (ty := .byte) (by decide)
        have Sn101 := Safe.ext E96 CH0.1 (Safe.new (Nat.le_of_eq g96.symm))
        have pre102 : ∀ tgt, Steps p.tables e below (T96.setTop (mkF m 70 #[.val (.ref b1), .val (.int l1)] [(.int (3 : Int32)), (.ref b96), (.ref b96)])) tgt → Steps p.tables e below (s₁.setTop (entryFrame m #[(.ref b1), (.int l1)] 2)) tgt := by
          intro tgt kk
          refine pre95 tgt ?_
          refine st96 _ ?_
          show Steps p.tables e below (T96.setTop (mkF m 68 #[.val (.ref b1), .val (.int l1)] [(.ref b96)])) _
          refine XS.dup X96.here hx rfl (hb hby d2_68) rfl rfl ?_
          show Steps p.tables e below (T96.setTop (mkF m 69 #[.val (.ref b1), .val (.int l1)] [(.ref b96), (.ref b96)])) _
          refine XS.iconst X96.here hx rfl (hb hby d2_69) ?_
          show Steps p.tables e below (T96.setTop (mkF m 70 #[.val (.ref b1), .val (.int l1)] [(.int (3 : Int32)), (.ref b96), (.ref b96)])) _
          exact kk
        obtain ⟨T103, h103, k103, X103, e103, E103, A103, st103⟩ := newP X96 hx hZ (hw _ (List.mem_of_getElem? (i := 0) rfl)) e96 (g := (mkF m 70 #[.val (.ref b1), .val (.int l1)] [(.int (3 : Int32)), (.ref b96), (.ref b96)])) rfl (hb hby d2_70) rfl (by decide) (cap := 3) (by decide) (by decide) (by decide) (by decide)
        obtain ⟨b103, g103⟩ : ∃ z, z = h96.size := ⟨_, rfl⟩
        rw [← g103] at A103 st103
        have ne104 : b1 ≠ b103 := Nat.ne_of_lt (Nat.lt_of_lt_of_le V_1.lt (Nat.le_of_eq g103.symm))
        have ne105 : b96 ≠ b103 := Nat.ne_of_lt (Nat.lt_of_lt_of_le E_b96.lt (Nat.le_of_eq g103.symm))
        have gn106 : n0 ≤ b103 := Nat.le_trans Zs100 (Nat.le_of_eq g103.symm)
        have sz106 : h0.size ≤ b103 := Nat.le_trans KC100.1 (Nat.le_of_eq g103.symm)
        have ltS107_0 := E_b96.lt
        have CA107 : CHr Z own_EL s.vm h96 s.vm h103 := CHr.ext E103 CH99.1
        have CH107 : CHr Z own_EL s.vm h0 s.vm h103 := CH99.trans CA107
        have Sf107_ltS107_0 := CA107.safe ltS107_0 Sn101
        have S_CS : Sta Z h103 "java/lang/String" "COMPACT_STRINGS" "Z" (.int z0) := S_CS.ext E103
        have V_1 : Arv Z h103 b1 k1 .char (3 : Int32) [(.int x0), (.int x1), (.int x2)] (.int (0 : Int32)) := V_1.ext E103
        have E_b96 : Exa Z h103 b96 "java/lang/String" := E_b96.ext E103
        have F_value_b96 : Fld Z h103 b96 "java/lang/String" "value" "[B" .null := F_value_b96.ext E103
        have F_coder_b96 : Fld Z h103 b96 "java/lang/String" "coder" "B" (.int (0 : Int32)) := F_coder_b96.ext E103
        have Zs108 : n0 ≤ h103.size := Nat.le_trans Zs100 E103.1
        have KC108 : Keep h0 h103 [] := KC100.ext E103
        have V_b103 : Arv Z h103 b103 k103 .char (3 : Int32) [(.int (0 : Int32)), (.int (0 : Int32)), (.int (0 : Int32))] (.int (0 : Int32)) := (Arv.new A103 (by decide)).pad (pad_rep [] (.int (0 : Int32)) 3)
        have Sn109 := Safe.ext E103 CH99.1 (Safe.new (Nat.le_of_eq g103.symm))
        have pre110 : ∀ tgt, Steps p.tables e below (T103.setTop (mkF m 76 #[.val (.ref b1), .val (.int l1)] [(.int (0 : Int32)), (.ref b1), (.int (0 : Int32)), (.ref b103), (.ref b103), (.ref b96), (.ref b96)])) tgt → Steps p.tables e below (s₁.setTop (entryFrame m #[(.ref b1), (.int l1)] 2)) tgt := by
          intro tgt kk
          refine pre102 tgt ?_
          refine st103 _ ?_
          show Steps p.tables e below (T103.setTop (mkF m 72 #[.val (.ref b1), .val (.int l1)] [(.ref b103), (.ref b96), (.ref b96)])) _
          refine XS.dup X103.here hx rfl (hb hby d2_72) rfl rfl ?_
          show Steps p.tables e below (T103.setTop (mkF m 73 #[.val (.ref b1), .val (.int l1)] [(.ref b103), (.ref b103), (.ref b96), (.ref b96)])) _
          refine XS.iconst X103.here hx rfl (hb hby d2_73) ?_
          show Steps p.tables e below (T103.setTop (mkF m 74 #[.val (.ref b1), .val (.int l1)] [(.int (0 : Int32)), (.ref b103), (.ref b103), (.ref b96), (.ref b96)])) _
          refine XS.aloadN X103.here hx rfl (hb hby d2_74) rfl rfl ?_
          show Steps p.tables e below (T103.setTop (mkF m 75 #[.val (.ref b1), .val (.int l1)] [(.ref b1), (.int (0 : Int32)), (.ref b103), (.ref b103), (.ref b96), (.ref b96)])) _
          refine XS.iconst X103.here hx rfl (hb hby d2_75) ?_
          show Steps p.tables e below (T103.setTop (mkF m 76 #[.val (.ref b1), .val (.int l1)] [(.int (0 : Int32)), (.ref b1), (.int (0 : Int32)), (.ref b103), (.ref b103), (.ref b96), (.ref b96)])) _
          exact kk
        obtain ⟨cl111, Ar111, aq111, aS111, aN111, aH111, aG111⟩ := id V_1
        have hin112 : ¬ ((0 : Int32) < 0 ∨ cl111.slots.size ≤ ((0 : Int32)).toNatClampNeg) := inb_of aS111 ⟨by decide, by decide⟩
        have hat112 : cl111.slots[((0 : Int32)).toNatClampNeg]? = some (.int x0) := Has.at aH111 hin112 rfl
        have pre113 : ∀ tgt, Steps p.tables e below (T103.setTop (mkF m 77 #[.val (.ref b1), .val (.int l1)] [(.int x0), (.int (0 : Int32)), (.ref b103), (.ref b103), (.ref b96), (.ref b96)])) tgt → Steps p.tables e below (s₁.setTop (entryFrame m #[(.ref b1), (.int l1)] 2)) tgt := by
          intro tgt kk
          refine pre110 tgt ?_
          refine X103.caload hx (j := (0 : Int32)) (v := (.int x0)) (by rw [e103]; exact Ar111.1) (State.isArrayOf_alike hZ.alike Ar111.2.1) Ar111.2.2 hin112 hat112 (g := (mkF m 76 #[.val (.ref b1), .val (.int l1)] [(.int (0 : Int32)), (.ref b1), (.int (0 : Int32)), (.ref b103), (.ref b103), (.ref b96), (.ref b96)])) rfl rfl (hb hby d2_76) _ ?_
          show Steps p.tables e below (T103.setTop (mkF m 77 #[.val (.ref b1), .val (.int l1)] [(.int x0), (.int (0 : Int32)), (.ref b103), (.ref b103), (.ref b96), (.ref b96)])) _
          exact kk
        obtain ⟨cl114, Ar114, aq114, aS114, aN114, aH114, aG114⟩ := id V_b103
        have hin115 : ¬ ((0 : Int32) < 0 ∨ cl114.slots.size ≤ ((0 : Int32)).toNatClampNeg) := inb_of aS114 ⟨by decide, by decide⟩
        obtain ⟨T115, h115, X115, e115, W115, st115⟩ := stC X103 hx hZ e103 Ar114 (j := (0 : Int32)) hin115 (g := (mkF m 77 #[.val (.ref b1), .val (.int l1)] [(.int x0), (.int (0 : Int32)), (.ref b103), (.ref b103), (.ref b96), (.ref b96)])) rfl rfl (hb hby d2_77)
        have N115 := Fr.snoc X115 N0 gn106
        have Vq115 : Arv Z h115 b103 k103 .char (3 : Int32) [(.int (nar .char x0)), (.int (0 : Int32)), (.int (0 : Int32))] (.int (0 : Int32)) := Arv.set Ar114 aq114 aS114 aN114 aH114 aG114 (fits_nar_char _) W115 0 rfl (Nat.le_of_ble_eq_true rfl)
        have ltS116_0 := E_b96.lt
        have ltS116_1 := V_b103.lt
        have CA116 : CHr Z own_EL s.vm h103 s.vm h115 := CHr.wr W115 Sn109 CH107.1
        have CH116 : CHr Z own_EL s.vm h0 s.vm h115 := CH107.trans CA116
        have Sf116_ltS116_0 := CA116.safe ltS116_0 Sf107_ltS107_0
        have Sf116_ltS116_1 := CA116.safe ltS116_1 Sn109
        have S_CS : Sta Z h115 "java/lang/String" "COMPACT_STRINGS" "Z" (.int z0) := S_CS.wr W115
        have V_1 : Arv Z h115 b1 k1 .char (3 : Int32) [(.int x0), (.int x1), (.int x2)] (.int (0 : Int32)) := V_1.other W115 ne104
        have E_b96 : Exa Z h115 b96 "java/lang/String" := E_b96.wr W115
        have F_value_b96 : Fld Z h115 b96 "java/lang/String" "value" "[B" .null := F_value_b96.other W115 (Or.inl ne105)
        have F_coder_b96 : Fld Z h115 b96 "java/lang/String" "coder" "B" (.int (0 : Int32)) := F_coder_b96.other W115 (Or.inl ne105)
        have Zs117 : n0 ≤ h115.size := Nat.le_trans Zs108 (Keep.of_wr W115).1
        have KC117 : Keep h0 h115 [] := KC108.wr W115 (Or.inr sz106)
        have V_b103 := Vq115
        have pre118 : ∀ tgt, Steps p.tables e below (T115.setTop (mkF m 82 #[.val (.ref b1), .val (.int l1)] [(.int (1 : Int32)), (.ref b1), (.int (1 : Int32)), (.ref b103), (.ref b103), (.ref b96), (.ref b96)])) tgt → Steps p.tables e below (s₁.setTop (entryFrame m #[(.ref b1), (.int l1)] 2)) tgt := by
          intro tgt kk
          refine pre113 tgt ?_
          refine st115 _ ?_
          show Steps p.tables e below (T115.setTop (mkF m 78 #[.val (.ref b1), .val (.int l1)] [(.ref b103), (.ref b96), (.ref b96)])) _
          refine XS.dup X115.here hx rfl (hb hby d2_78) rfl rfl ?_
          show Steps p.tables e below (T115.setTop (mkF m 79 #[.val (.ref b1), .val (.int l1)] [(.ref b103), (.ref b103), (.ref b96), (.ref b96)])) _
          refine XS.iconst X115.here hx rfl (hb hby d2_79) ?_
          show Steps p.tables e below (T115.setTop (mkF m 80 #[.val (.ref b1), .val (.int l1)] [(.int (1 : Int32)), (.ref b103), (.ref b103), (.ref b96), (.ref b96)])) _
          refine XS.aloadN X115.here hx rfl (hb hby d2_80) rfl rfl ?_
          show Steps p.tables e below (T115.setTop (mkF m 81 #[.val (.ref b1), .val (.int l1)] [(.ref b1), (.int (1 : Int32)), (.ref b103), (.ref b103), (.ref b96), (.ref b96)])) _
          refine XS.iconst X115.here hx rfl (hb hby d2_81) ?_
          show Steps p.tables e below (T115.setTop (mkF m 82 #[.val (.ref b1), .val (.int l1)] [(.int (1 : Int32)), (.ref b1), (.int (1 : Int32)), (.ref b103), (.ref b103), (.ref b96), (.ref b96)])) _
          exact kk
        obtain ⟨cl119, Ar119, aq119, aS119, aN119, aH119, aG119⟩ := id V_1
        have hin120 : ¬ ((1 : Int32) < 0 ∨ cl119.slots.size ≤ ((1 : Int32)).toNatClampNeg) := inb_of aS119 ⟨by decide, by decide⟩
        have hat120 : cl119.slots[((1 : Int32)).toNatClampNeg]? = some (.int x1) := Has.at aH119 hin120 rfl
        have pre121 : ∀ tgt, Steps p.tables e below (T115.setTop (mkF m 83 #[.val (.ref b1), .val (.int l1)] [(.int x1), (.int (1 : Int32)), (.ref b103), (.ref b103), (.ref b96), (.ref b96)])) tgt → Steps p.tables e below (s₁.setTop (entryFrame m #[(.ref b1), (.int l1)] 2)) tgt := by
          intro tgt kk
          refine pre118 tgt ?_
          refine X115.caload hx (j := (1 : Int32)) (v := (.int x1)) (by rw [e115]; exact Ar119.1) (State.isArrayOf_alike hZ.alike Ar119.2.1) Ar119.2.2 hin120 hat120 (g := (mkF m 82 #[.val (.ref b1), .val (.int l1)] [(.int (1 : Int32)), (.ref b1), (.int (1 : Int32)), (.ref b103), (.ref b103), (.ref b96), (.ref b96)])) rfl rfl (hb hby d2_82) _ ?_
          show Steps p.tables e below (T115.setTop (mkF m 83 #[.val (.ref b1), .val (.int l1)] [(.int x1), (.int (1 : Int32)), (.ref b103), (.ref b103), (.ref b96), (.ref b96)])) _
          exact kk
        obtain ⟨cl122, Ar122, aq122, aS122, aN122, aH122, aG122⟩ := id V_b103
        have hin123 : ¬ ((1 : Int32) < 0 ∨ cl122.slots.size ≤ ((1 : Int32)).toNatClampNeg) := inb_of aS122 ⟨by decide, by decide⟩
        obtain ⟨T123, h123, X123, e123, W123, st123⟩ := stC X115 hx hZ e115 Ar122 (j := (1 : Int32)) hin123 (g := (mkF m 83 #[.val (.ref b1), .val (.int l1)] [(.int x1), (.int (1 : Int32)), (.ref b103), (.ref b103), (.ref b96), (.ref b96)])) rfl rfl (hb hby d2_83)
        have N123 := Fr.snoc X123 N115 gn106
        have Vq123 : Arv Z h123 b103 k103 .char (3 : Int32) [(.int (nar .char x0)), (.int (nar .char x1)), (.int (0 : Int32))] (.int (0 : Int32)) := Arv.set Ar122 aq122 aS122 aN122 aH122 aG122 (fits_nar_char _) W123 1 rfl (Nat.le_of_ble_eq_true rfl)
        have ltS124_0 := E_b96.lt
        have ltS124_1 := V_b103.lt
        have CA124 : CHr Z own_EL s.vm h115 s.vm h123 := CHr.wr W123 Sf116_ltS116_1 CH116.1
        have CH124 : CHr Z own_EL s.vm h0 s.vm h123 := CH116.trans CA124
        have Sf124_ltS124_0 := CA124.safe ltS124_0 Sf116_ltS116_0
        have Sf124_ltS124_1 := CA124.safe ltS124_1 Sf116_ltS116_1
        have S_CS : Sta Z h123 "java/lang/String" "COMPACT_STRINGS" "Z" (.int z0) := S_CS.wr W123
        have V_1 : Arv Z h123 b1 k1 .char (3 : Int32) [(.int x0), (.int x1), (.int x2)] (.int (0 : Int32)) := V_1.other W123 ne104
        have E_b96 : Exa Z h123 b96 "java/lang/String" := E_b96.wr W123
        have F_value_b96 : Fld Z h123 b96 "java/lang/String" "value" "[B" .null := F_value_b96.other W123 (Or.inl ne105)
        have F_coder_b96 : Fld Z h123 b96 "java/lang/String" "coder" "B" (.int (0 : Int32)) := F_coder_b96.other W123 (Or.inl ne105)
        have Zs125 : n0 ≤ h123.size := Nat.le_trans Zs117 (Keep.of_wr W123).1
        have KC125 : Keep h0 h123 [] := KC117.wr W123 (Or.inr sz106)
        have V_b103 := Vq123
        have pre126 : ∀ tgt, Steps p.tables e below (T123.setTop (mkF m 88 #[.val (.ref b1), .val (.int l1)] [(.int (2 : Int32)), (.ref b1), (.int (2 : Int32)), (.ref b103), (.ref b103), (.ref b96), (.ref b96)])) tgt → Steps p.tables e below (s₁.setTop (entryFrame m #[(.ref b1), (.int l1)] 2)) tgt := by
          intro tgt kk
          refine pre121 tgt ?_
          refine st123 _ ?_
          show Steps p.tables e below (T123.setTop (mkF m 84 #[.val (.ref b1), .val (.int l1)] [(.ref b103), (.ref b96), (.ref b96)])) _
          refine XS.dup X123.here hx rfl (hb hby d2_84) rfl rfl ?_
          show Steps p.tables e below (T123.setTop (mkF m 85 #[.val (.ref b1), .val (.int l1)] [(.ref b103), (.ref b103), (.ref b96), (.ref b96)])) _
          refine XS.iconst X123.here hx rfl (hb hby d2_85) ?_
          show Steps p.tables e below (T123.setTop (mkF m 86 #[.val (.ref b1), .val (.int l1)] [(.int (2 : Int32)), (.ref b103), (.ref b103), (.ref b96), (.ref b96)])) _
          refine XS.aloadN X123.here hx rfl (hb hby d2_86) rfl rfl ?_
          show Steps p.tables e below (T123.setTop (mkF m 87 #[.val (.ref b1), .val (.int l1)] [(.ref b1), (.int (2 : Int32)), (.ref b103), (.ref b103), (.ref b96), (.ref b96)])) _
          refine XS.iconst X123.here hx rfl (hb hby d2_87) ?_
          show Steps p.tables e below (T123.setTop (mkF m 88 #[.val (.ref b1), .val (.int l1)] [(.int (2 : Int32)), (.ref b1), (.int (2 : Int32)), (.ref b103), (.ref b103), (.ref b96), (.ref b96)])) _
          exact kk
        obtain ⟨cl127, Ar127, aq127, aS127, aN127, aH127, aG127⟩ := id V_1
        have hin128 : ¬ ((2 : Int32) < 0 ∨ cl127.slots.size ≤ ((2 : Int32)).toNatClampNeg) := inb_of aS127 ⟨by decide, by decide⟩
        have hat128 : cl127.slots[((2 : Int32)).toNatClampNeg]? = some (.int x2) := Has.at aH127 hin128 rfl
        have pre129 : ∀ tgt, Steps p.tables e below (T123.setTop (mkF m 89 #[.val (.ref b1), .val (.int l1)] [(.int x2), (.int (2 : Int32)), (.ref b103), (.ref b103), (.ref b96), (.ref b96)])) tgt → Steps p.tables e below (s₁.setTop (entryFrame m #[(.ref b1), (.int l1)] 2)) tgt := by
          intro tgt kk
          refine pre126 tgt ?_
          refine X123.caload hx (j := (2 : Int32)) (v := (.int x2)) (by rw [e123]; exact Ar127.1) (State.isArrayOf_alike hZ.alike Ar127.2.1) Ar127.2.2 hin128 hat128 (g := (mkF m 88 #[.val (.ref b1), .val (.int l1)] [(.int (2 : Int32)), (.ref b1), (.int (2 : Int32)), (.ref b103), (.ref b103), (.ref b96), (.ref b96)])) rfl rfl (hb hby d2_88) _ ?_
          show Steps p.tables e below (T123.setTop (mkF m 89 #[.val (.ref b1), .val (.int l1)] [(.int x2), (.int (2 : Int32)), (.ref b103), (.ref b103), (.ref b96), (.ref b96)])) _
          exact kk
        obtain ⟨cl130, Ar130, aq130, aS130, aN130, aH130, aG130⟩ := id V_b103
        have hin131 : ¬ ((2 : Int32) < 0 ∨ cl130.slots.size ≤ ((2 : Int32)).toNatClampNeg) := inb_of aS130 ⟨by decide, by decide⟩
        obtain ⟨T131, h131, X131, e131, W131, st131⟩ := stC X123 hx hZ e123 Ar130 (j := (2 : Int32)) hin131 (g := (mkF m 89 #[.val (.ref b1), .val (.int l1)] [(.int x2), (.int (2 : Int32)), (.ref b103), (.ref b103), (.ref b96), (.ref b96)])) rfl rfl (hb hby d2_89)
        have N131 := Fr.snoc X131 N123 gn106
        have Vq131 : Arv Z h131 b103 k103 .char (3 : Int32) [(.int (nar .char x0)), (.int (nar .char x1)), (.int (nar .char x2))] (.int (0 : Int32)) := Arv.set Ar130 aq130 aS130 aN130 aH130 aG130 (fits_nar_char _) W131 2 rfl (Nat.le_of_ble_eq_true rfl)
        have ltS132_0 := E_b96.lt
        have ltS132_1 := V_b103.lt
        have CA132 : CHr Z own_EL s.vm h123 s.vm h131 := CHr.wr W131 Sf124_ltS124_1 CH124.1
        have CH132 : CHr Z own_EL s.vm h0 s.vm h131 := CH124.trans CA132
        have Sf132_ltS132_0 := CA132.safe ltS132_0 Sf124_ltS124_0
        have Sf132_ltS132_1 := CA132.safe ltS132_1 Sf124_ltS124_1
        have S_CS : Sta Z h131 "java/lang/String" "COMPACT_STRINGS" "Z" (.int z0) := S_CS.wr W131
        have V_1 : Arv Z h131 b1 k1 .char (3 : Int32) [(.int x0), (.int x1), (.int x2)] (.int (0 : Int32)) := V_1.other W131 ne104
        have E_b96 : Exa Z h131 b96 "java/lang/String" := E_b96.wr W131
        have F_value_b96 : Fld Z h131 b96 "java/lang/String" "value" "[B" .null := F_value_b96.other W131 (Or.inl ne105)
        have F_coder_b96 : Fld Z h131 b96 "java/lang/String" "coder" "B" (.int (0 : Int32)) := F_coder_b96.other W131 (Or.inl ne105)
        have Zs133 : n0 ≤ h131.size := Nat.le_trans Zs125 (Keep.of_wr W131).1
        have KC133 : Keep h0 h131 [] := KC125.wr W131 (Or.inr sz106)
        have V_b103 := Vq131
        have pre134 : ∀ tgt, Steps p.tables e below (T131.setTop (mkF m 90 #[.val (.ref b1), .val (.int l1)] [(.ref b103), (.ref b96), (.ref b96)])) tgt → Steps p.tables e below (s₁.setTop (entryFrame m #[(.ref b1), (.int l1)] 2)) tgt := by
          intro tgt kk
          refine pre129 tgt ?_
          refine st131 _ ?_
          show Steps p.tables e below (T131.setTop (mkF m 90 #[.val (.ref b1), .val (.int l1)] [(.ref b103), (.ref b96), (.ref b96)])) _
          exact kk
        have hwv135 : ∀ d ∈ StrChars.Road.words, d.before a0 Z = true := fun d hd => hw d ((by decide +kernel : ∀ d ∈ StrChars.Road.words, d ∈ tables_1) d hd)
        have lt136_0 := V_1.lt
        have lt136_1 := E_b96.lt
        have lt136_2 := V_b103.lt
        obtain ⟨_, _, ⟨T137, L137, k137, n137⟩, -, X137, ⟨Lc137, hQ137, l137, y137, z137⟩, st137⟩ := X131.specialBack hx (y := (⟨"java/lang/String", "<init>", "([C)V"⟩ : MethodName)) rfl hown (mvT hZ (hw _ (List.mem_of_getElem? (i := 12) rfl))) (mvT hZ (hw _ (List.mem_of_getElem? (i := 13) rfl))) (mvT hZ (hw _ (List.mem_of_getElem? (i := 14) rfl))) (by decide) (StrChars.Road.backV (W := 1) hZ hwv135 (kI := 4) (hw _ (List.mem_of_getElem? (i := 10) rfl)) (cs := [(nar .char x0), (nar .char x1), (nar .char x2)]) (bs := ([(nar .char x0), (nar .char x1), (nar .char x2)] : List Int32).map (fun c => c.toInt8.toInt32)) (n := 3) (n0 := n0) gn98 Zs133 E_b96 F_value_b96 F_coder_b96 V_b103 S_CS hz rfl rfl (by decide) (by decide) (own_pS (own_nn hp0) (own_pS (own_nn hp1) (own_pS (own_nn hp2) own_p0))) rfl (by decide) (by decide)) (g := (mkF m 90 #[.val (.ref b1), .val (.int l1)] [(.ref b103), (.ref b96), (.ref b96)])) rfl (by rw [hml]; rfl) (Steps.refl _) (a := b96) (argsL := [(.ref b103)]) (rest := [(.ref b96)]) (lenOf pd___C_V rfl) rfl (by show 2 * 0 + _ ≤ _; exact Nat.le_of_eq rfl) (hb hby d2_90) (fun _ _ => ⟨rfl, e131, (by decide : 2 + 1 ≤ _), (by decide : 7 + 3 ≤ _)⟩)
        dsimp only [Pt.U, Pt.locs, Pt.cells, Pt.slots] at X137 l137 y137 z137 st137 hQ137
        subst l137 y137 z137
        obtain ⟨rfl, N137q, K137, -, Qc137, tt137, kk137, gt137, st_137, -, Qv137, Qa137⟩ := hQ137
        have N137 := Fr.app N131 N137q
        have ltS138_0 := E_b96.lt
        have ltS138_1 := V_b103.lt
        have CA138 : CHr Z own_EL s.vm h131 s.vm T137.heap := CHr.keep K137 (sfS Sf132_ltS132_0 sf0) CH132.1
        have CH138 : CHr Z own_EL s.vm h0 s.vm T137.heap := CH132.trans CA138
        have Sf138_ltS138_0 := CA138.safe ltS138_0 Sf132_ltS132_0
        have Sf138_ltS138_1 := CA138.safe ltS138_1 Sf132_ltS132_1
        have pl140 := own_plain_Exa E_b96
        have S_CS : Sta Z T137.heap "java/lang/String" "COMPACT_STRINGS" "Z" (.int z0) := own_sta_keep S_CS K137 (allS pl140 all0)
        have V_1 : Arv Z T137.heap b1 k1 .char (3 : Int32) [(.int x0), (.int x1), (.int x2)] (.int (0 : Int32)) := V_1.keep K137 (ninS ne97 nin0)
        have E_b96 : Exa Z T137.heap b96 "java/lang/String" := E_b96.keep K137
        have V_b103 : Arv Z T137.heap b103 k103 .char (3 : Int32) [(.int (nar .char x0)), (.int (nar .char x1)), (.int (nar .char x2))] (.int (0 : Int32)) := V_b103.keep K137 (ninS (Ne.symm ne105) nin0)
        have Zs139 : n0 ≤ T137.heap.size := Nat.le_trans Zs133 K137.1
        have KC139 : Keep h0 T137.heap [] := KC133.trans K137 (allS (Or.inr sz98) all0)
        have net137_lt136_0 : b1 ≠ tt137 := Nat.ne_of_lt (Nat.lt_of_lt_of_le lt136_0 st_137)
        have net137_lt136_1 : b96 ≠ tt137 := Nat.ne_of_lt (Nat.lt_of_lt_of_le lt136_1 st_137)
        have net137_lt136_2 : b103 ≠ tt137 := Nat.ne_of_lt (Nat.lt_of_lt_of_le lt136_2 st_137)
        have szt137 : h0.size ≤ tt137 := Nat.le_trans KC133.1 st_137
        have Fv_b96 : Fld Z T137.heap b96 "java/lang/String" "value" "[B" (.ref tt137) := Qv137
        have Fc_b96 : Fld Z T137.heap b96 "java/lang/String" "coder" "B" (.int (0 : Int32)) := Qc137
        have V_b96 : Arv Z T137.heap tt137 kk137 .byte (3 : Int32) ((([(nar .char x0), (nar .char x1), (nar .char x2)] : List Int32).map (fun c => c.toInt8.toInt32)).map Value.int) (.int (0 : Int32)) := Qa137
        obtain ⟨fs, hr, hrun, hended, hR⟩ := Stand.leaveW (s := s) (vm₁ := s.vm) X137 (n := 0) ((State.WarmedH.refl s).since 0) (Nat.zero_le _) (v := some (.ref b96)) (fun h => by rw [Bd.returns] at h; cases h)
        refine ⟨_, _, pre134 _ ?_, hrun, hended, _, _, rfl, ?_, ?_, hR.1, hR.2.1, hR.2.2.1, hR.2.2.2.mono (by decide) (by decide)⟩
        · skip
          refine st137.trans ?_
          show Steps p.tables e below (T137.setTop (mkF m 93 #[.val (.ref b1), .val (.int l1)] [(.ref b96)])) _
          exact retOut X137 hx Bd.returns rfl (Or.inr (Or.inr (Or.inr (Or.inr ⟨rfl, rfl, rfl⟩)))) (hb hby d2_93) hr
        · show QMk Z b1 k1 l1 x0 x1 x2 z0 h0 n0 _ T137.heap _
          have eq : own_cs l1 x0 x1 x2 = [x0, x1, x2] := by unfold own_cs; rw [if_neg hc1_2, if_neg hc17_24, if_neg hc39_56]
          rw [own_nar2 hp0, own_nar2 hp1, own_nar2 hp2] at V_b96
          refine ⟨b96, tt137, kk137, rfl, N137, KC139, sz98, E_b96, Fv_b96, Fc_b96, ?_⟩
          rw [eq]; exact V_b96
        · show CHr Z own_EL s.vm s.heap T137.vm T137.heap
          rw [hh]
          exact CH138.trans (CHv.at (vm0 := s.vm) (s := s) X137 hZ hEL CH138.1)
theorem d7_0 : decode jdk_31_method_11_code 0 = .ok (.aload_n 0, 1) := by decide +kernel
theorem d7_1 : decode jdk_31_method_11_code 1 = .ok (.ifnonnull 12, 3) := by decide +kernel
theorem d7_13 : decode jdk_31_method_11_code 13 = .ok (.aload_n 0, 1) := by decide +kernel
theorem d7_14 : decode jdk_31_method_11_code 14 = .ok (.areturn, 1) := by decide +kernel
theorem pn_7 : plainName "java/util/Objects" = true := by first | (simp [plainName, overriddenIn]; done) | decide +kernel
theorem ef_rmNN (m : MethodId) (x0 : Addr) (x1 : Addr) : entryFrame m #[(.ref x0), (.ref x1)] 2 = mkF m 0 #[.val (.ref x0), .val (.ref x1)] [] := by first | (simp [entryFrame, mkF, argsToLocals, Value.category]; done) | rfl
def QNN (Z : State) (a : Addr) (b : Addr) (h0 : Heap) (n0 : Nat) (v : Option Value) (h : Heap) (L : List Loc) : Prop := v = some (.ref a) ∧ Fr n0 L ∧ h = h0
set_option maxRecDepth 65536 in
set_option maxHeartbeats 40000000 in
theorem rmNN (l : Launch) (Z : State) (a0 : Array Value) (hw : ∀ d ∈ tables_1, d.before a0 Z = true) (ws : List Jvm.Cond) (a : Addr) (b : Addr) (h0 : Heap) (n0 : Nat) (Z0 : n0 ≤ h0.size) :
    MetFree l (⟨"java/util/Objects", "requireNonNull", "(Ljava/lang/Object;Ljava/lang/String;)Ljava/lang/Object;"⟩ : MethodName) (head1 (Jvm.Cond.code (⟨"java/util/Objects", "requireNonNull", "(Ljava/lang/Object;Ljava/lang/String;)Ljava/lang/Object;"⟩ : MethodName) jdk_31_method_11_code 2 (some (.object "java/lang/Object")) :: ws) ({ frames := 0, cells := 0, slots := 0, locals := 0 } : Room)) (fun ar UU => ar = #[(.ref a), (.ref b)] ∧ Z.Warmed39 UU.vm ∧ UU.heap = h0) (fun _ _ _ _ _ => True) (fun _ UU oo UU' => ∃ vv LL, oo = .returned vv ∧ QNN Z a b h0 n0 vv UU'.heap LL ∧ FrameEnd UU oo UU' LL ({ frames := 0, cells := 0, slots := 0, locals := 0 } : Room).cells ({ frames := 0, cells := 0, slots := 0, locals := 0 } : Room).slots) := by
  refine MetFree.of_bodySF (plainFor_of_name pn_7) hisR ?_
  intro p e s m args below meth c s₁ Bd hml0 hP hK
  obtain ⟨rfl, hZ, hh⟩ := hP
  have hx := Bd.exec
  have hby := Bd.bytes
  have hml : c.maxLocals = 2 := hml0
  have hown : s.vm.findClass "java/util/Objects" = some m.cls := findClass_of_methodNamed Bd.named
  have hnm := (name_of_methodNamed Bd.named Bd.method).1
  have X0 : Stand p l e ({ frames := 0, cells := 0, slots := 0, locals := 0 } : Room) s m #[(.ref a), (.ref b)] below meth c s₁ [] 0 0 := Stand.of_body Bd
  have e0 : s₁.heap = h0 := by rw [← hh, Bd.state]; rfl
  have N0 := Fr.nil n0
  have KC0 : Keep h0 h0 [] := Keep.refl h0 []
  have pre0 : ∀ tgt, Steps p.tables e below (s₁.setTop (mkF m 0 #[.val (.ref a), .val (.ref b)] [])) tgt → Steps p.tables e below (s₁.setTop (entryFrame m #[(.ref a), (.ref b)] 2)) tgt := fun tgt kk => castTop (ef_rmNN m (a) (b)) kk
  obtain ⟨fs, hr, hrun, hended, hW, hsame⟩ := X0.leave (v := some (.ref a)) (fun h => by rw [Bd.returns] at h; cases h)
  refine ⟨_, _, pre0 _ ?_, hrun, hended, _, _, rfl, ?_, ⟨_, rfl⟩, hW, hsame.mono (by decide) (by decide)⟩
  · skip
    refine XS.aloadN X0.here hx rfl (hb hby d7_0) rfl rfl ?_
    show Steps p.tables e below (s₁.setTop (mkF m 1 #[.val (.ref a), .val (.ref b)] [(.ref a)])) _
    refine XT.nonnullYes X0.here hx rfl (pc0 := 1) (pc' := 13) rfl (hb hby d7_1) rfl rfl (by intro q; cases q) (by decide) (by decide) ?_
    show Steps p.tables e below (s₁.setTop (mkF m 13 #[.val (.ref a), .val (.ref b)] [])) _
    refine XS.aloadN X0.here hx rfl (hb hby d7_13) rfl rfl ?_
    show Steps p.tables e below (s₁.setTop (mkF m 14 #[.val (.ref a), .val (.ref b)] [(.ref a)])) _
    exact retOut X0 hx Bd.returns rfl (Or.inr (Or.inr (Or.inr (Or.inr ⟨rfl, rfl, rfl⟩)))) (hb hby d7_14) hr
  · show QNN Z a b h0 n0 _ s₁.heap _
    rw [e0]
    exact ⟨rfl, N0, rfl⟩
theorem d6_0 : decode prog_10_method_1_code 0 = .ok (.aload_n 0, 1) := by decide +kernel
theorem d6_1 : decode prog_10_method_1_code 1 = .ok (.invokespecial 1, 3) := by decide +kernel
theorem d6_4 : decode prog_10_method_1_code 4 = .ok (.aload_n 0, 1) := by decide +kernel
theorem d6_5 : decode prog_10_method_1_code 5 = .ok (.aload_n 1, 1) := by decide +kernel
theorem d6_6 : decode prog_10_method_1_code 6 = .ok (.ldc 7, 2) := by decide +kernel
theorem d6_8 : decode prog_10_method_1_code 8 = .ok (.invokestatic 9, 3) := by decide +kernel
theorem d6_11 : decode prog_10_method_1_code 11 = .ok (.checkcast 15, 3) := by decide +kernel
theorem d6_14 : decode prog_10_method_1_code 14 = .ok (.putfield 17, 3) := by decide +kernel
theorem d6_17 : decode prog_10_method_1_code 17 = .ok (.aload_n 0, 1) := by decide +kernel
theorem d6_18 : decode prog_10_method_1_code 18 = .ok (.iload_n 2, 1) := by decide +kernel
theorem d6_19 : decode prog_10_method_1_code 19 = .ok (.putfield 22, 3) := by decide +kernel
theorem d6_22 : decode prog_10_method_1_code 22 = .ok (.return_, 1) := by decide +kernel
theorem pn_6 : plainName "com/example/postie/postie/config/Listen" = true := by first | (simp [plainName, overriddenIn]; done) | decide +kernel
theorem pd__Ljava_lang_Object_Ljava_lang_String__Ljava_lang_Object_ : parseMethodDescriptor "(Ljava/lang/Object;Ljava/lang/String;)Ljava/lang/Object;" = some ⟨[(.object "java/lang/Object"), (.object "java/lang/String")], some (.object "java/lang/Object")⟩ := by decide +kernel
theorem ef_rmLi (m : MethodId) (x0 : Addr) (x1 : Addr) (x2 : Int32) : entryFrame m #[(.ref x0), (.ref x1), (.int x2)] 3 = mkF m 0 #[.val (.ref x0), .val (.ref x1), .val (.int x2)] [] := by first | (simp [entryFrame, mkF, argsToLocals, Value.category]; done) | rfl
def QLi (Z : State) (a : Addr) (y : Addr) (p2 : Int32) (h0 : Heap) (n0 : Nat) (v : Option Value) (h : Heap) (L : List Loc) : Prop := v = none ∧ Fr n0 L ∧ Keep h0 h [a] ∧ Fld Z h a "com/example/postie/postie/config/Listen" "host" "Ljava/lang/String;" (.ref y) ∧ Fld Z h a "com/example/postie/postie/config/Listen" "port" "I" (.int p2)
set_option maxRecDepth 65536 in
set_option maxHeartbeats 40000000 in
theorem rmLi (l : Launch) (Z : State) (a0 : Array Value) (hw : ∀ d ∈ tables_1, d.before a0 Z = true) (ws : List Jvm.Cond) (a : Addr) (y : Addr) (p2 : Int32) (h0 : Heap) (n0 : Nat) (Z0 : n0 ≤ h0.size) (E_a : Exa Z h0 a "com/example/postie/postie/config/Listen") (F_h : Fld Z h0 a "com/example/postie/postie/config/Listen" "host" "Ljava/lang/String;" .null) (F_p : Fld Z h0 a "com/example/postie/postie/config/Listen" "port" "I" (.int (0 : Int32))) (E_y : Exa Z h0 y "java/lang/String") (g_a : n0 ≤ a) :
    MetFree l (⟨"com/example/postie/postie/config/Listen", "<init>", "(Ljava/lang/String;I)V"⟩ : MethodName) (head1 (Jvm.Cond.code (⟨"com/example/postie/postie/config/Listen", "<init>", "(Ljava/lang/String;I)V"⟩ : MethodName) prog_10_method_1_code 3 none :: ws) ({ frames := 1, cells := 2, slots := 20, locals := 14 } : Room)) (fun ar UU => ar = #[(.ref a), (.ref y), (.int p2)] ∧ Z.Warmed39 UU.vm ∧ UU.heap = h0 ∧ CHv Z own_EL UU.vm h0) (fun _ _ _ _ _ => True) (fun _ UU oo UU' => ∃ vv LL, oo = .returned vv ∧ QLi Z a y p2 h0 n0 vv UU'.heap LL ∧ CHr Z own_EL UU.vm UU.heap UU'.vm UU'.heap ∧ ReturnedEndW UU oo UU' LL ({ frames := 1, cells := 2, slots := 20, locals := 14 } : Room).cells ({ frames := 1, cells := 2, slots := 20, locals := 14 } : Room).slots) := by
  refine MetFree.of_bodySF (plainFor_of_name pn_6) hisR ?_
  intro p e s m args below meth c s₁ Bd hml0 hP hK
  obtain ⟨rfl, hZ, hh, hCv⟩ := hP
  have hx := Bd.exec
  have hby := Bd.bytes
  have hml : c.maxLocals = 3 := hml0
  have hown : s.vm.findClass "com/example/postie/postie/config/Listen" = some m.cls := findClass_of_methodNamed Bd.named
  have hnm := (name_of_methodNamed Bd.named Bd.method).1
  have X0 : Stand p l e ({ frames := 1, cells := 2, slots := 20, locals := 14 } : Room) s m #[(.ref a), (.ref y), (.int p2)] below meth c s₁ [] 0 0 := Stand.of_body Bd
  have e0 : s₁.heap = h0 := by rw [← hh, Bd.state]; rfl
  have N0 := Fr.nil n0
  have hEL : EW Z a0 own_EL := own_EW hw
  have CH0 : CHr Z own_EL s.vm h0 s.vm h0 := CHr.refl hCv
  have KC0 : Keep h0 h0 [a] := Keep.refl h0 [a]
  have pre0 : ∀ tgt, Steps p.tables e below (s₁.setTop (mkF m 0 #[.val (.ref a), .val (.ref y), .val (.int p2)] [])) tgt → Steps p.tables e below (s₁.setTop (entryFrame m #[(.ref a), (.ref y), (.int p2)] 3)) tgt := fun tgt kk => castTop (ef_rmLi m (a) (y) (p2)) kk
  have pre1 : ∀ tgt, Steps p.tables e below (s₁.setTop (mkF m 1 #[.val (.ref a), .val (.ref y), .val (.int p2)] [(.ref a)])) tgt → Steps p.tables e below (s₁.setTop (entryFrame m #[(.ref a), (.ref y), (.int p2)] 3)) tgt := by
    intro tgt kk
    refine pre0 tgt ?_
    refine XS.aloadN X0.here hx rfl (hb hby d6_0) rfl rfl ?_
    show Steps p.tables e below (s₁.setTop (mkF m 1 #[.val (.ref a), .val (.ref y), .val (.int p2)] [(.ref a)])) _
    exact kk
  obtain ⟨T2, X2, e2, st2⟩ := initO X0 hx hZ hown (hw _ (List.mem_of_getElem? (i := 36) rfl)) (hw _ (List.mem_of_getElem? (i := 20) rfl)) (hw _ (List.mem_of_getElem? (i := 21) rfl)) e0 (g := (mkF m 1 #[.val (.ref a), .val (.ref y), .val (.int p2)] [(.ref a)])) rfl (by rw [hml]; rfl) rfl (hb hby d6_1) (by decide) (W := 0) (by show 2 * 0 + _ ≤ _; exact Nat.le_of_eq rfl) (by decide)
  have pre3 : ∀ tgt, Steps p.tables e below (T2.setTop (mkF m 6 #[.val (.ref a), .val (.ref y), .val (.int p2)] [(.ref y), (.ref a)])) tgt → Steps p.tables e below (s₁.setTop (entryFrame m #[(.ref a), (.ref y), (.int p2)] 3)) tgt := by
    intro tgt kk
    refine pre1 tgt ?_
    refine st2 _ ?_
    show Steps p.tables e below (T2.setTop (mkF m 4 #[.val (.ref a), .val (.ref y), .val (.int p2)] [])) _
    refine XS.aloadN X2.here hx rfl (hb hby d6_4) rfl rfl ?_
    show Steps p.tables e below (T2.setTop (mkF m 5 #[.val (.ref a), .val (.ref y), .val (.int p2)] [(.ref a)])) _
    refine XS.aloadN X2.here hx rfl (hb hby d6_5) rfl rfl ?_
    show Steps p.tables e below (T2.setTop (mkF m 6 #[.val (.ref a), .val (.ref y), .val (.int p2)] [(.ref y), (.ref a)])) _
    exact kk
  have hwS : ∀ d ∈ Bundle.stringAtoms, d.before a0 Z = true := fun d hd => hw d ((by decide +kernel : ∀ d ∈ Bundle.stringAtoms, d ∈ tables_1) d hd)
  obtain ⟨lit4, T4, h4, k4, X4, e4, E4, hS4, hkl4, hZ, hown, CL4, -, st4⟩ := ldcOH (s := s) (vm0 := s.vm) X2 hx hZ hown (hw _ (List.mem_of_getElem? (i := 37) rfl)) hwS e2 (k0 := 0) ((State.WarmedH.refl s).since 0) (Nat.zero_le _) hEL CH0.1 (g := (mkF m 6 #[.val (.ref a), .val (.ref y), .val (.int p2)] [(.ref y), (.ref a)])) rfl (hb hby d6_6) (n := 16) (by decide +kernel) (by decide) (by decide) (by decide)
  have CH5 : CHr Z own_EL s.vm h0 T4.vm h4 := CH0.trans CL4
  have E_a : Exa Z h4 a "com/example/postie/postie/config/Listen" := E_a.ext E4
  have F_h : Fld Z h4 a "com/example/postie/postie/config/Listen" "host" "Ljava/lang/String;" .null := F_h.ext E4
  have F_p : Fld Z h4 a "com/example/postie/postie/config/Listen" "port" "I" (.int (0 : Int32)) := F_p.ext E4
  have E_y : Exa Z h4 y "java/lang/String" := E_y.ext E4
  have Zs6 : n0 ≤ h4.size := Nat.le_trans Z0 E4.1
  have KC6 : Keep h0 h4 [a] := KC0.ext E4
  have pre7 : ∀ tgt, Steps p.tables e below (T4.setTop (mkF m 8 #[.val (.ref a), .val (.ref y), .val (.int p2)] [(.ref lit4), (.ref y), (.ref a)])) tgt → Steps p.tables e below (s₁.setTop (entryFrame m #[(.ref a), (.ref y), (.int p2)] 3)) tgt := by
    intro tgt kk
    refine pre3 tgt ?_
    refine st4 _ ?_
    show Steps p.tables e below (T4.setTop (mkF m 8 #[.val (.ref a), .val (.ref y), .val (.int p2)] [(.ref lit4), (.ref y), (.ref a)])) _
    exact kk
  obtain ⟨_, _, ⟨T8, L8, k8, n8⟩, -, X8, ⟨Lc8, hQ8, l8, y8, z8⟩, st8⟩ := Jvm.LawKit.callS X4 hx (y := (⟨"java/util/Objects", "requireNonNull", "(Ljava/lang/Object;Ljava/lang/String;)Ljava/lang/Object;"⟩ : MethodName)) hown (mvT hZ (hw _ (List.mem_of_getElem? (i := 38) rfl))) (mvT hZ (hw _ (List.mem_of_getElem? (i := 39) rfl))) (mvT hZ (hw _ (List.mem_of_getElem? (i := 40) rfl))) (mvT hZ (hw _ (List.mem_of_getElem? (i := 41) rfl))) (by decide) (backOf (W := 1) (rmNN l Z a0 hw [] y lit4 h4 n0 Zs6) hZ (hw _ (List.mem_of_getElem? (i := 41) rfl)) (hw _ (List.mem_of_getElem? (i := 40) rfl)) (by decide) (by decide)) (g := (mkF m 8 #[.val (.ref a), .val (.ref y), .val (.int p2)] [(.ref lit4), (.ref y), (.ref a)])) rfl (by rw [hml]; rfl) (argsL := [(.ref y), (.ref lit4)]) (rest := [(.ref a)]) (lenOf pd__Ljava_lang_Object_Ljava_lang_String__Ljava_lang_Object_ rfl) rfl (by show 2 * 0 + _ ≤ _; exact Nat.le_of_eq rfl) (hb hby d6_8) (fun _ _ => ⟨rfl, e4, (by decide : 2 + 0 ≤ _), (by decide : 20 + 0 ≤ _)⟩)
  dsimp only [Pt.U, Pt.locs, Pt.cells, Pt.slots] at X8 l8 y8 z8 st8 hQ8
  subst l8 y8 z8
  obtain ⟨rfl, N8q, hh8⟩ := hQ8
  have N8 := Fr.app N0 N8q
  have pre9 : ∀ tgt, Steps p.tables e below (T8.setTop (mkF m 11 #[.val (.ref a), .val (.ref y), .val (.int p2)] [(.ref y), (.ref a)])) tgt → Steps p.tables e below (s₁.setTop (entryFrame m #[(.ref a), (.ref y), (.int p2)] 3)) tgt := by
    intro tgt kk
    refine pre7 tgt ?_
    refine st8 _ ?_
    show Steps p.tables e below (T8.setTop (mkF m 11 #[.val (.ref a), .val (.ref y), .val (.int p2)] [(.ref y), (.ref a)])) _
    exact kk
  obtain ⟨T10, X10, e10, st10⟩ := castY X8 hx hZ hown (hw _ (List.mem_of_getElem? (i := 42) rfl)) hh8 (Ins.self E_y) (g := (mkF m 11 #[.val (.ref a), .val (.ref y), .val (.int p2)] [(.ref y), (.ref a)])) rfl rfl (hb hby d6_11)
  have pre11 : ∀ tgt, Steps p.tables e below (T10.setTop (mkF m 14 #[.val (.ref a), .val (.ref y), .val (.int p2)] [(.ref y), (.ref a)])) tgt → Steps p.tables e below (s₁.setTop (entryFrame m #[(.ref a), (.ref y), (.int p2)] 3)) tgt := by
    intro tgt kk
    refine pre9 tgt ?_
    refine st10 _ ?_
    show Steps p.tables e below (T10.setTop (mkF m 14 #[.val (.ref a), .val (.ref y), .val (.int p2)] [(.ref y), (.ref a)])) _
    exact kk
  obtain ⟨T12, h12, X12, e12, W12, st12⟩ := putF X10 hx hZ hown (host := "") (Or.inl (hw _ (List.mem_of_getElem? (i := 43) rfl))) Via.refl e10 F_h E_a (Or.inr ⟨(hw _ (List.mem_of_getElem? (i := 44) rfl)), rfl, hnm⟩) (hw _ (List.mem_of_getElem? (i := 31) rfl)) (ty := (.object "java/lang/String")) (by decide) rfl rfl (g := (mkF m 14 #[.val (.ref a), .val (.ref y), .val (.int p2)] [(.ref y), (.ref a)])) rfl rfl (hb hby d6_14)
  have N12 := Fr.snoc X12 N8 g_a
  have Fq12 : Fld Z h12 a "com/example/postie/postie/config/Listen" "host" "Ljava/lang/String;" (.ref y) := F_h.same W12
  have CA13 : CHr Z own_EL T4.vm h4 T4.vm h12 := CHr.wr W12 (Safe.exa hZ.alike E_a (by decide) (by decide)) CH5.1
  have CH13 : CHr Z own_EL s.vm h0 T4.vm h12 := CH5.trans CA13
  have E_a : Exa Z h12 a "com/example/postie/postie/config/Listen" := E_a.wr W12
  have F_p : Fld Z h12 a "com/example/postie/postie/config/Listen" "port" "I" (.int (0 : Int32)) := F_p.other W12 (Or.inr (slot_ne (Or.inr (hw _ (List.mem_of_getElem? (i := 46) rfl))) (Or.inr (hw _ (List.mem_of_getElem? (i := 44) rfl))) (by decide) (t := .int) (t' := (.object "java/lang/String")) (by decide) (by decide)))
  have E_y : Exa Z h12 y "java/lang/String" := E_y.wr W12
  have Zs14 : n0 ≤ h12.size := Nat.le_trans Zs6 (Keep.of_wr W12).1
  have hk14 : k4 ≤ h12.size := Nat.le_trans hkl4 (Keep.of_wr W12).1
  have KC14 : Keep h0 h12 [a] := KC6.wr W12 (Or.inl (List.mem_of_getElem? (i := 0) rfl))
  have F_h := Fq12
  have pre15 : ∀ tgt, Steps p.tables e below (T12.setTop (mkF m 19 #[.val (.ref a), .val (.ref y), .val (.int p2)] [(.int p2), (.ref a)])) tgt → Steps p.tables e below (s₁.setTop (entryFrame m #[(.ref a), (.ref y), (.int p2)] 3)) tgt := by
    intro tgt kk
    refine pre11 tgt ?_
    refine st12 _ ?_
    show Steps p.tables e below (T12.setTop (mkF m 17 #[.val (.ref a), .val (.ref y), .val (.int p2)] [])) _
    refine XS.aloadN X12.here hx rfl (hb hby d6_17) rfl rfl ?_
    show Steps p.tables e below (T12.setTop (mkF m 18 #[.val (.ref a), .val (.ref y), .val (.int p2)] [(.ref a)])) _
    refine XS.iloadN X12.here hx rfl (hb hby d6_18) rfl ?_
    show Steps p.tables e below (T12.setTop (mkF m 19 #[.val (.ref a), .val (.ref y), .val (.int p2)] [(.int p2), (.ref a)])) _
    exact kk
  obtain ⟨T16, h16, X16, e16, W16, st16⟩ := putF X12 hx hZ hown (host := "") (Or.inl (hw _ (List.mem_of_getElem? (i := 45) rfl))) Via.refl e12 F_p E_a (Or.inr ⟨(hw _ (List.mem_of_getElem? (i := 46) rfl)), rfl, hnm⟩) (hw _ (List.mem_of_getElem? (i := 31) rfl)) (ty := .int) (by decide) rfl rfl (g := (mkF m 19 #[.val (.ref a), .val (.ref y), .val (.int p2)] [(.int p2), (.ref a)])) rfl rfl (hb hby d6_19)
  have N16 := Fr.snoc X16 N12 g_a
  have Fq16 : Fld Z h16 a "com/example/postie/postie/config/Listen" "port" "I" (.int p2) := F_p.same W16
  have CA17 : CHr Z own_EL T4.vm h12 T4.vm h16 := CHr.wr W16 (Safe.exa hZ.alike E_a (by decide) (by decide)) CH13.1
  have CH17 : CHr Z own_EL s.vm h0 T4.vm h16 := CH13.trans CA17
  have E_a : Exa Z h16 a "com/example/postie/postie/config/Listen" := E_a.wr W16
  have E_y : Exa Z h16 y "java/lang/String" := E_y.wr W16
  have F_h : Fld Z h16 a "com/example/postie/postie/config/Listen" "host" "Ljava/lang/String;" (.ref y) := F_h.other W16 (Or.inr (slot_ne (Or.inr (hw _ (List.mem_of_getElem? (i := 44) rfl))) (Or.inr (hw _ (List.mem_of_getElem? (i := 46) rfl))) (by decide) (t := (.object "java/lang/String")) (t' := .int) (by decide) (by decide)))
  have Zs18 : n0 ≤ h16.size := Nat.le_trans Zs14 (Keep.of_wr W16).1
  have hk18 : k4 ≤ h16.size := Nat.le_trans hk14 (Keep.of_wr W16).1
  have KC18 : Keep h0 h16 [a] := KC14.wr W16 (Or.inl (List.mem_of_getElem? (i := 0) rfl))
  have F_p := Fq16
  obtain ⟨fs, hr, hrun, hended, hR⟩ := Stand.leaveW (s := s) (vm₁ := T4.vm) X16 (n := k4) hS4 (by rw [e16]; exact hk18) (v := none) (fun _ => rfl)
  refine ⟨_, _, pre15 _ ?_, hrun, hended, _, _, rfl, ?_, ?_, hR.1, hR.2.1, hR.2.2.1, hR.2.2.2.mono (by decide) (by decide)⟩
  · skip
    refine st16 _ ?_
    show Steps p.tables e below (T16.setTop (mkF m 22 #[.val (.ref a), .val (.ref y), .val (.int p2)] [])) _
    exact X16.returnOut hx Bd.returns (hb hby d6_22) hr
  · show QLi Z a y p2 h0 n0 _ T16.heap _
    rw [e16]
    exact ⟨rfl, N16, KC18, F_h, F_p⟩
  · show CHr Z own_EL s.vm s.heap T16.vm T16.heap
    rw [hh, e16]
    exact CH17.trans (CHv.at (vm0 := T4.vm) (s := s) X16 hZ hEL CH17.1)
theorem d9_0 : decode prog_10_method_4_code 0 = .ok (.aload_n 1, 1) := by decide +kernel
theorem d9_1 : decode prog_10_method_4_code 1 = .ok (.instanceof 18, 3) := by decide +kernel
theorem d9_4 : decode prog_10_method_4_code 4 = .ok (.ifCond .eq 38, 3) := by decide +kernel
theorem d9_7 : decode prog_10_method_4_code 7 = .ok (.aload_n 1, 1) := by decide +kernel
theorem d9_8 : decode prog_10_method_4_code 8 = .ok (.checkcast 18, 3) := by decide +kernel
theorem d9_11 : decode prog_10_method_4_code 11 = .ok (.getfield 17, 3) := by decide +kernel
theorem d9_14 : decode prog_10_method_4_code 14 = .ok (.aload_n 0, 1) := by decide +kernel
theorem d9_15 : decode prog_10_method_4_code 15 = .ok (.getfield 17, 3) := by decide +kernel
theorem d9_18 : decode prog_10_method_4_code 18 = .ok (.invokevirtual 26, 3) := by decide +kernel
theorem d9_21 : decode prog_10_method_4_code 21 = .ok (.ifCond .eq 21, 3) := by decide +kernel
theorem d9_24 : decode prog_10_method_4_code 24 = .ok (.aload_n 1, 1) := by decide +kernel
theorem d9_25 : decode prog_10_method_4_code 25 = .ok (.checkcast 18, 3) := by decide +kernel
theorem d9_28 : decode prog_10_method_4_code 28 = .ok (.getfield 22, 3) := by decide +kernel
theorem d9_31 : decode prog_10_method_4_code 31 = .ok (.aload_n 0, 1) := by decide +kernel
theorem d9_32 : decode prog_10_method_4_code 32 = .ok (.getfield 22, 3) := by decide +kernel
theorem d9_35 : decode prog_10_method_4_code 35 = .ok (.if_icmp .ne 7, 3) := by decide +kernel
theorem d9_38 : decode prog_10_method_4_code 38 = .ok (.iconst 1, 1) := by decide +kernel
theorem d9_39 : decode prog_10_method_4_code 39 = .ok (.goto 4, 3) := by decide +kernel
theorem d9_42 : decode prog_10_method_4_code 42 = .ok (.iconst 0, 1) := by decide +kernel
theorem d9_43 : decode prog_10_method_4_code 43 = .ok (.ireturn, 1) := by decide +kernel
theorem pn_9 : plainName "com/example/postie/postie/config/Listen" = true := by first | (simp [plainName, overriddenIn]; done) | decide +kernel
theorem pd__Ljava_lang_Object__Z : parseMethodDescriptor "(Ljava/lang/Object;)Z" = some ⟨[(.object "java/lang/Object")], some .boolean⟩ := by decide +kernel
theorem ef_rmE (m : MethodId) (x0 : Addr) (x1 : Addr) : entryFrame m #[(.ref x0), (.ref x1)] 2 = mkF m 0 #[.val (.ref x0), .val (.ref x1)] [] := by first | (simp [entryFrame, mkF, argsToLocals, Value.category]; done) | rfl
def QE (Z : State) (a : Addr) (b : Addr) (x : Addr) (t : Addr) (k : ClassId) (cs : List Int32) (y : Addr) (u : Addr) (k2 : ClassId) (ds : List Int32) (p1 : Int32) (p2 : Int32) (z0 : Int32) (h0 : Heap) (n0 : Nat) (v : Option Value) (h : Heap) (L : List Loc) : Prop := v = some (.int (bI ((ds = cs) ∧ (p2 = p1)))) ∧ Fr n0 L ∧ h = h0
set_option maxRecDepth 65536 in
set_option maxHeartbeats 40000000 in
theorem rmE (l : Launch) (Z : State) (a0 : Array Value) (hw : ∀ d ∈ tables_1, d.before a0 Z = true) (ws : List Jvm.Cond) (a : Addr) (b : Addr) (x : Addr) (t : Addr) (k : ClassId) (cs : List Int32) (y : Addr) (u : Addr) (k2 : ClassId) (ds : List Int32) (p1 : Int32) (p2 : Int32) (z0 : Int32) (h0 : Heap) (n0 : Nat) (Z0 : n0 ≤ h0.size) (S_CS : Sta Z h0 "java/lang/String" "COMPACT_STRINGS" "Z" (.int z0)) (hz : ¬ z0 = 0) (F_h : Fld Z h0 a "com/example/postie/postie/config/Listen" "host" "Ljava/lang/String;" (.ref x)) (F_p : Fld Z h0 a "com/example/postie/postie/config/Listen" "port" "I" (.int p1)) (E_b : Exa Z h0 b "com/example/postie/postie/config/Listen") (G_h : Fld Z h0 b "com/example/postie/postie/config/Listen" "host" "Ljava/lang/String;" (.ref y)) (G_p : Fld Z h0 b "com/example/postie/postie/config/Listen" "port" "I" (.int p2)) (E_x : Exa Z h0 x "java/lang/String") (Fv_x : Fld Z h0 x "java/lang/String" "value" "[B" (.ref t)) (Fc_x : Fld Z h0 x "java/lang/String" "coder" "B" (.int (0 : Int32))) (V_x : Arv Z h0 t k .byte (Int32.ofNat (cs).length) (((cs).map (fun c => c.toInt8.toInt32)).map Value.int) (.int (0 : Int32))) (E_y : Exa Z h0 y "java/lang/String") (Fv_y : Fld Z h0 y "java/lang/String" "value" "[B" (.ref u)) (Fc_y : Fld Z h0 y "java/lang/String" "coder" "B" (.int (0 : Int32))) (V_y : Arv Z h0 u k2 .byte (Int32.ofNat (ds).length) (((ds).map (fun c => c.toInt8.toInt32)).map Value.int) (.int (0 : Int32))) (hcs : ∀ c ∈ cs, ¬ c < 0 ∧ ¬ (255 : Int32) < c) (hcl : cs.length ≤ 4000) (hds : ∀ c ∈ ds, ¬ c < 0 ∧ ¬ (255 : Int32) < c) (hdl : ds.length ≤ 4000) :
    MetFree l (⟨"com/example/postie/postie/config/Listen", "equals", "(Ljava/lang/Object;)Z"⟩ : MethodName) (head1 (Jvm.Cond.code (⟨"com/example/postie/postie/config/Listen", "equals", "(Ljava/lang/Object;)Z"⟩ : MethodName) prog_10_method_4_code 2 (some .boolean) :: ws) ({ frames := 2, cells := 0, slots := 0, locals := 30 } : Room)) (fun ar UU => ar = #[(.ref a), (.ref b)] ∧ Z.Warmed39 UU.vm ∧ UU.heap = h0) (fun _ _ _ _ _ => True) (fun _ UU oo UU' => ∃ vv LL, oo = .returned vv ∧ QE Z a b x t k cs y u k2 ds p1 p2 z0 h0 n0 vv UU'.heap LL ∧ FrameEnd UU oo UU' LL ({ frames := 2, cells := 0, slots := 0, locals := 30 } : Room).cells ({ frames := 2, cells := 0, slots := 0, locals := 30 } : Room).slots) := by
  refine MetFree.of_bodySF (plainFor_of_name pn_9) hisR ?_
  intro p e s m args below meth c s₁ Bd hml0 hP hK
  obtain ⟨rfl, hZ, hh⟩ := hP
  have hx := Bd.exec
  have hby := Bd.bytes
  have hml : c.maxLocals = 2 := hml0
  have hown : s.vm.findClass "com/example/postie/postie/config/Listen" = some m.cls := findClass_of_methodNamed Bd.named
  have hnm := (name_of_methodNamed Bd.named Bd.method).1
  have X0 : Stand p l e ({ frames := 2, cells := 0, slots := 0, locals := 30 } : Room) s m #[(.ref a), (.ref b)] below meth c s₁ [] 0 0 := Stand.of_body Bd
  have e0 : s₁.heap = h0 := by rw [← hh, Bd.state]; rfl
  have N0 := Fr.nil n0
  have KC0 : Keep h0 h0 [] := Keep.refl h0 []
  have pre0 : ∀ tgt, Steps p.tables e below (s₁.setTop (mkF m 0 #[.val (.ref a), .val (.ref b)] [])) tgt → Steps p.tables e below (s₁.setTop (entryFrame m #[(.ref a), (.ref b)] 2)) tgt := fun tgt kk => castTop (ef_rmE m (a) (b)) kk
  have pre1 : ∀ tgt, Steps p.tables e below (s₁.setTop (mkF m 1 #[.val (.ref a), .val (.ref b)] [(.ref b)])) tgt → Steps p.tables e below (s₁.setTop (entryFrame m #[(.ref a), (.ref b)] 2)) tgt := by
    intro tgt kk
    refine pre0 tgt ?_
    refine XS.aloadN X0.here hx rfl (hb hby d9_0) rfl rfl ?_
    show Steps p.tables e below (s₁.setTop (mkF m 1 #[.val (.ref a), .val (.ref b)] [(.ref b)])) _
    exact kk
  obtain ⟨T2, X2, e2, st2⟩ := instY X0 hx hZ hown (hw _ (List.mem_of_getElem? (i := 55) rfl)) e0 (Ins.self E_b) (g := (mkF m 1 #[.val (.ref a), .val (.ref b)] [(.ref b)])) rfl rfl (hb hby d9_1)
  have pre3 : ∀ tgt, Steps p.tables e below (T2.setTop (mkF m 8 #[.val (.ref a), .val (.ref b)] [(.ref b)])) tgt → Steps p.tables e below (s₁.setTop (entryFrame m #[(.ref a), (.ref b)] 2)) tgt := by
    intro tgt kk
    refine pre1 tgt ?_
    refine st2 _ ?_
    show Steps p.tables e below (T2.setTop (mkF m 4 #[.val (.ref a), .val (.ref b)] [(.int (1 : Int32))])) _
    refine XS.ifNo X2.here hx rfl (hb hby d9_4) rfl (XT.i0_eq_f (by decide)) ?_
    show Steps p.tables e below (T2.setTop (mkF m 7 #[.val (.ref a), .val (.ref b)] [])) _
    refine XS.aloadN X2.here hx rfl (hb hby d9_7) rfl rfl ?_
    show Steps p.tables e below (T2.setTop (mkF m 8 #[.val (.ref a), .val (.ref b)] [(.ref b)])) _
    exact kk
  obtain ⟨T4, X4, e4, st4⟩ := castY X2 hx hZ hown (hw _ (List.mem_of_getElem? (i := 55) rfl)) e2 (Ins.self E_b) (g := (mkF m 8 #[.val (.ref a), .val (.ref b)] [(.ref b)])) rfl rfl (hb hby d9_8)
  have pre5 : ∀ tgt, Steps p.tables e below (T4.setTop (mkF m 11 #[.val (.ref a), .val (.ref b)] [(.ref b)])) tgt → Steps p.tables e below (s₁.setTop (entryFrame m #[(.ref a), (.ref b)] 2)) tgt := by
    intro tgt kk
    refine pre3 tgt ?_
    refine st4 _ ?_
    show Steps p.tables e below (T4.setTop (mkF m 11 #[.val (.ref a), .val (.ref b)] [(.ref b)])) _
    exact kk
  obtain ⟨T6, X6, e6, st6⟩ := getF X4 hx hZ hown (host := "") (Or.inl (hw _ (List.mem_of_getElem? (i := 43) rfl))) Via.refl e4 G_h (g := (mkF m 11 #[.val (.ref a), .val (.ref b)] [(.ref b)])) rfl rfl (hb hby d9_11)
  have pre7 : ∀ tgt, Steps p.tables e below (T6.setTop (mkF m 15 #[.val (.ref a), .val (.ref b)] [(.ref a), (.ref y)])) tgt → Steps p.tables e below (s₁.setTop (entryFrame m #[(.ref a), (.ref b)] 2)) tgt := by
    intro tgt kk
    refine pre5 tgt ?_
    refine st6 _ ?_
    show Steps p.tables e below (T6.setTop (mkF m 14 #[.val (.ref a), .val (.ref b)] [(.ref y)])) _
    refine XS.aloadN X6.here hx rfl (hb hby d9_14) rfl rfl ?_
    show Steps p.tables e below (T6.setTop (mkF m 15 #[.val (.ref a), .val (.ref b)] [(.ref a), (.ref y)])) _
    exact kk
  obtain ⟨T8, X8, e8, st8⟩ := getF X6 hx hZ hown (host := "") (Or.inl (hw _ (List.mem_of_getElem? (i := 43) rfl))) Via.refl e6 F_h (g := (mkF m 15 #[.val (.ref a), .val (.ref b)] [(.ref a), (.ref y)])) rfl rfl (hb hby d9_15)
  have pre9 : ∀ tgt, Steps p.tables e below (T8.setTop (mkF m 18 #[.val (.ref a), .val (.ref b)] [(.ref x), (.ref y)])) tgt → Steps p.tables e below (s₁.setTop (entryFrame m #[(.ref a), (.ref b)] 2)) tgt := by
    intro tgt kk
    refine pre7 tgt ?_
    refine st8 _ ?_
    show Steps p.tables e below (T8.setTop (mkF m 18 #[.val (.ref a), .val (.ref b)] [(.ref x), (.ref y)])) _
    exact kk
  have hwq10 : ∀ d ∈ StrChars.Road.wordsEq, d.before a0 Z = true := fun d hd => hw d ((by decide +kernel : ∀ d ∈ StrChars.Road.wordsEq, d ∈ tables_1) d hd)
  obtain ⟨cq11, kq11, q11a, q11b, q11c⟩ := isOf hZ e8 E_y
  obtain ⟨_, _, ⟨T11, L11, k11, n11⟩, -, X11, ⟨Lc11, hQ11, l11, y11, z11⟩, st11⟩ := X8.virtualBack hx (y := (⟨"java/lang/String", "equals", "(Ljava/lang/Object;)Z"⟩ : MethodName)) (z := (⟨"java/lang/String", "equals", "(Ljava/lang/Object;)Z"⟩ : MethodName)) hown (mvT hZ (hw _ (List.mem_of_getElem? (i := 57) rfl))) (mvT hZ (hw _ (List.mem_of_getElem? (i := 58) rfl))) (notFace_of_selects (args := #[]) (mvT hZ (hw _ (List.mem_of_getElem? (i := 60) rfl)))) (mvT hZ (hw _ (List.mem_of_getElem? (i := 60) rfl))) (mvT hZ (hw _ (List.mem_of_getElem? (i := 59) rfl))) (by decide) (StrChars.Road.eqW (W := 0) hZ hwq10 (kI := 4) (hw _ (List.mem_of_getElem? (i := 10) rfl)) E_y Fv_y Fc_y V_y (own_cod rfl rfl hds) (own_up hds) hdl E_x Fv_x Fc_x V_x (own_cod rfl rfl hcs) (own_up hcs) hcl S_CS hz (by decide) (by decide)) q11a q11c (g := (mkF m 18 #[.val (.ref a), .val (.ref b)] [(.ref x), (.ref y)])) rfl (by rw [hml]; rfl) (Steps.refl _) (argsL := [(.ref x)]) (rest := []) (lenOf pd__Ljava_lang_Object__Z rfl) rfl (by show 2 * 0 + _ ≤ _; exact Nat.le_of_eq rfl) (hb hby d9_18) (fun _ _ => ⟨rfl, e8, (by decide : 0 + 0 ≤ _), (by decide : 0 + 0 ≤ _)⟩)
  dsimp only [Pt.U, Pt.locs, Pt.cells, Pt.slots] at X11 l11 y11 z11 st11 hQ11
  subst l11 y11 z11
  have hQ11 := own_eqB hQ11
  obtain ⟨rfl, rfl, hh11⟩ := hQ11
  have N11q : Fr n0 ([] : List Loc) := Fr.nil n0
  have N11 := Fr.app N0 N11q
  have pre12 : ∀ tgt, Steps p.tables e below (T11.setTop (mkF m 21 #[.val (.ref a), .val (.ref b)] [(.int (bI (ds = cs)))])) tgt → Steps p.tables e below (s₁.setTop (entryFrame m #[(.ref a), (.ref b)] 2)) tgt := by
    intro tgt kk
    refine pre9 tgt ?_
    refine st11.trans ?_
    show Steps p.tables e below (T11.setTop (mkF m 21 #[.val (.ref a), .val (.ref b)] [(.int (bI (ds = cs)))])) _
    exact kk
  obtain ⟨T22, lo22, X22, N22, e22, pre22⟩ : ∃ (T' : State) (lo : List Loc), Stand p l e ({ frames := 2, cells := 0, slots := 0, locals := 30 } : Room) s m #[(.ref a), (.ref b)] below meth c T' lo 0 0 ∧ Fr n0 lo ∧ T'.heap = h0 ∧ ∀ tgt, Steps p.tables e below (T'.setTop (mkF m 43 #[.val (.ref a), .val (.ref b)] [(.int (bI ((ds = cs) ∧ (p2 = p1))))])) tgt → Steps p.tables e below (s₁.setTop (entryFrame m #[(.ref a), (.ref b)] 2)) tgt := by
    by_cases hc21_13 : ds = cs
    · skip
      have pre14 : ∀ tgt, Steps p.tables e below (T11.setTop (mkF m 25 #[.val (.ref a), .val (.ref b)] [(.ref b)])) tgt → Steps p.tables e below (s₁.setTop (entryFrame m #[(.ref a), (.ref b)] 2)) tgt := by
        intro tgt kk
        refine pre12 tgt ?_
        refine XS.ifNo X11.here hx rfl (hb hby d9_21) rfl (bB_eq_f hc21_13) ?_
        show Steps p.tables e below (T11.setTop (mkF m 24 #[.val (.ref a), .val (.ref b)] [])) _
        refine XS.aloadN X11.here hx rfl (hb hby d9_24) rfl rfl ?_
        show Steps p.tables e below (T11.setTop (mkF m 25 #[.val (.ref a), .val (.ref b)] [(.ref b)])) _
        exact kk
      obtain ⟨T15, X15, e15, st15⟩ := castY X11 hx hZ hown (hw _ (List.mem_of_getElem? (i := 55) rfl)) hh11 (Ins.self E_b) (g := (mkF m 25 #[.val (.ref a), .val (.ref b)] [(.ref b)])) rfl rfl (hb hby d9_25)
      have pre16 : ∀ tgt, Steps p.tables e below (T15.setTop (mkF m 28 #[.val (.ref a), .val (.ref b)] [(.ref b)])) tgt → Steps p.tables e below (s₁.setTop (entryFrame m #[(.ref a), (.ref b)] 2)) tgt := by
        intro tgt kk
        refine pre14 tgt ?_
        refine st15 _ ?_
        show Steps p.tables e below (T15.setTop (mkF m 28 #[.val (.ref a), .val (.ref b)] [(.ref b)])) _
        exact kk
      obtain ⟨T17, X17, e17, st17⟩ := getF X15 hx hZ hown (host := "") (Or.inl (hw _ (List.mem_of_getElem? (i := 45) rfl))) Via.refl e15 G_p (g := (mkF m 28 #[.val (.ref a), .val (.ref b)] [(.ref b)])) rfl rfl (hb hby d9_28)
      have pre18 : ∀ tgt, Steps p.tables e below (T17.setTop (mkF m 32 #[.val (.ref a), .val (.ref b)] [(.ref a), (.int p2)])) tgt → Steps p.tables e below (s₁.setTop (entryFrame m #[(.ref a), (.ref b)] 2)) tgt := by
        intro tgt kk
        refine pre16 tgt ?_
        refine st17 _ ?_
        show Steps p.tables e below (T17.setTop (mkF m 31 #[.val (.ref a), .val (.ref b)] [(.int p2)])) _
        refine XS.aloadN X17.here hx rfl (hb hby d9_31) rfl rfl ?_
        show Steps p.tables e below (T17.setTop (mkF m 32 #[.val (.ref a), .val (.ref b)] [(.ref a), (.int p2)])) _
        exact kk
      obtain ⟨T19, X19, e19, st19⟩ := getF X17 hx hZ hown (host := "") (Or.inl (hw _ (List.mem_of_getElem? (i := 45) rfl))) Via.refl e17 F_p (g := (mkF m 32 #[.val (.ref a), .val (.ref b)] [(.ref a), (.int p2)])) rfl rfl (hb hby d9_32)
      have pre20 : ∀ tgt, Steps p.tables e below (T19.setTop (mkF m 35 #[.val (.ref a), .val (.ref b)] [(.int p1), (.int p2)])) tgt → Steps p.tables e below (s₁.setTop (entryFrame m #[(.ref a), (.ref b)] 2)) tgt := by
        intro tgt kk
        refine pre18 tgt ?_
        refine st19 _ ?_
        show Steps p.tables e below (T19.setTop (mkF m 35 #[.val (.ref a), .val (.ref b)] [(.int p1), (.int p2)])) _
        exact kk
      by_cases hc35_21 : p2 = p1
      · skip
        refine ⟨T19, _, X19, N11, e19, fun tgt kk => ?_⟩
        have kq23 : ((.int (bI ((ds = cs) ∧ (p2 = p1)))) : Value) = (.int (1 : Int32)) := ((congrArg Value.int (bI_iff (and_iff_right hc21_13))).trans (congrArg Value.int (bI_t hc35_21)))
        rw [kq23] at kk
        refine pre20 tgt ?_
        refine XS.icmpNo X19.here hx rfl (hb hby d9_35) rfl (XT.ii_ne_f hc35_21) ?_
        show Steps p.tables e below (T19.setTop (mkF m 38 #[.val (.ref a), .val (.ref b)] [])) _
        refine XS.iconst X19.here hx rfl (hb hby d9_38) ?_
        show Steps p.tables e below (T19.setTop (mkF m 39 #[.val (.ref a), .val (.ref b)] [(.int (1 : Int32))])) _
        refine XS.goto X19.here hx rfl (pc0 := 39) (pc' := 43) rfl (hb hby d9_39) (by decide) (by decide) ?_
        show Steps p.tables e below (T19.setTop (mkF m 43 #[.val (.ref a), .val (.ref b)] [(.int (1 : Int32))])) _
        exact kk
      · skip
        refine ⟨T19, _, X19, N11, e19, fun tgt kk => ?_⟩
        have kq24 : ((.int (bI ((ds = cs) ∧ (p2 = p1)))) : Value) = (.int (0 : Int32)) := ((congrArg Value.int (bI_iff (and_iff_right hc21_13))).trans (congrArg Value.int (bI_f hc35_21)))
        rw [kq24] at kk
        refine pre20 tgt ?_
        refine XS.icmpYes X19.here hx rfl (pc0 := 35) (pc' := 42) rfl (hb hby d9_35) rfl (XT.ii_ne_t hc35_21) (by decide) (by decide) ?_
        show Steps p.tables e below (T19.setTop (mkF m 42 #[.val (.ref a), .val (.ref b)] [])) _
        refine XS.iconst X19.here hx rfl (hb hby d9_42) ?_
        show Steps p.tables e below (T19.setTop (mkF m 43 #[.val (.ref a), .val (.ref b)] [(.int (0 : Int32))])) _
        exact kk
    · skip
      refine ⟨T11, _, X11, N11, hh11, fun tgt kk => ?_⟩
      have kq25 : ((.int (bI ((ds = cs) ∧ (p2 = p1)))) : Value) = (.int (0 : Int32)) := (congrArg Value.int (bI_f (fun q => hc21_13 q.1)))
      rw [kq25] at kk
      refine pre12 tgt ?_
      refine XS.ifYes X11.here hx rfl (pc0 := 21) (pc' := 42) rfl (hb hby d9_21) rfl (bB_eq_t hc21_13) (by decide) (by decide) ?_
      show Steps p.tables e below (T11.setTop (mkF m 42 #[.val (.ref a), .val (.ref b)] [])) _
      refine XS.iconst X11.here hx rfl (hb hby d9_42) ?_
      show Steps p.tables e below (T11.setTop (mkF m 43 #[.val (.ref a), .val (.ref b)] [(.int (0 : Int32))])) _
      exact kk
  obtain ⟨fs, hr, hrun, hended, hW, hsame⟩ := X22.leave (v := some (.int (nar .boolean (bI ((ds = cs) ∧ (p2 = p1)))))) (fun h => by rw [Bd.returns] at h; cases h)
  refine ⟨_, _, pre22 _ ?_, hrun, hended, _, _, rfl, ?_, ⟨_, rfl⟩, hW, hsame.mono (by decide) (by decide)⟩
  · skip
    exact retN X22 hx (t := .boolean) Bd.returns (by simp) (hb hby d9_43) hr
  · show QE Z a b x t k cs y u k2 ds p1 p2 z0 h0 n0 _ T22.heap _
    rw [e22]
    exact ⟨bI_ret, N22, rfl⟩
theorem ef_rmEN (m : MethodId) (x0 : Addr) : entryFrame m #[(.ref x0), .null] 2 = mkF m 0 #[.val (.ref x0), .val .null] [] := by first | (simp [entryFrame, mkF, argsToLocals, Value.category]; done) | rfl
def QEN (Z : State) (a : Addr) (h0 : Heap) (n0 : Nat) (v : Option Value) (h : Heap) (L : List Loc) : Prop := v = some (.int (0 : Int32)) ∧ Fr n0 L ∧ h = h0
set_option maxRecDepth 65536 in
set_option maxHeartbeats 40000000 in
theorem rmEN (l : Launch) (Z : State) (a0 : Array Value) (hw : ∀ d ∈ tables_1, d.before a0 Z = true) (ws : List Jvm.Cond) (a : Addr) (h0 : Heap) (n0 : Nat) (Z0 : n0 ≤ h0.size) :
    MetFree l (⟨"com/example/postie/postie/config/Listen", "equals", "(Ljava/lang/Object;)Z"⟩ : MethodName) (head1 (Jvm.Cond.code (⟨"com/example/postie/postie/config/Listen", "equals", "(Ljava/lang/Object;)Z"⟩ : MethodName) prog_10_method_4_code 2 (some .boolean) :: ws) ({ frames := 0, cells := 0, slots := 0, locals := 0 } : Room)) (fun ar UU => ar = #[(.ref a), .null] ∧ Z.Warmed39 UU.vm ∧ UU.heap = h0) (fun _ _ _ _ _ => True) (fun _ UU oo UU' => ∃ vv LL, oo = .returned vv ∧ QEN Z a h0 n0 vv UU'.heap LL ∧ FrameEnd UU oo UU' LL ({ frames := 0, cells := 0, slots := 0, locals := 0 } : Room).cells ({ frames := 0, cells := 0, slots := 0, locals := 0 } : Room).slots) := by
  refine MetFree.of_bodySF (plainFor_of_name pn_9) hisR ?_
  intro p e s m args below meth c s₁ Bd hml0 hP hK
  obtain ⟨rfl, hZ, hh⟩ := hP
  have hx := Bd.exec
  have hby := Bd.bytes
  have hml : c.maxLocals = 2 := hml0
  have hown : s.vm.findClass "com/example/postie/postie/config/Listen" = some m.cls := findClass_of_methodNamed Bd.named
  have hnm := (name_of_methodNamed Bd.named Bd.method).1
  have X0 : Stand p l e ({ frames := 0, cells := 0, slots := 0, locals := 0 } : Room) s m #[(.ref a), .null] below meth c s₁ [] 0 0 := Stand.of_body Bd
  have e0 : s₁.heap = h0 := by rw [← hh, Bd.state]; rfl
  have N0 := Fr.nil n0
  have KC0 : Keep h0 h0 [] := Keep.refl h0 []
  have pre0 : ∀ tgt, Steps p.tables e below (s₁.setTop (mkF m 0 #[.val (.ref a), .val .null] [])) tgt → Steps p.tables e below (s₁.setTop (entryFrame m #[(.ref a), .null] 2)) tgt := fun tgt kk => castTop (ef_rmEN m (a)) kk
  have pre1 : ∀ tgt, Steps p.tables e below (s₁.setTop (mkF m 1 #[.val (.ref a), .val .null] [.null])) tgt → Steps p.tables e below (s₁.setTop (entryFrame m #[(.ref a), .null] 2)) tgt := by
    intro tgt kk
    refine pre0 tgt ?_
    refine XS.aloadN X0.here hx rfl (hb hby d9_0) rfl rfl ?_
    show Steps p.tables e below (s₁.setTop (mkF m 1 #[.val (.ref a), .val .null] [.null])) _
    exact kk
  obtain ⟨fs, hr, hrun, hended, hW, hsame⟩ := X0.leave (v := some (.int (0 : Int32))) (fun h => by rw [Bd.returns] at h; cases h)
  refine ⟨_, _, pre1 _ ?_, hrun, hended, _, _, rfl, ?_, ⟨_, rfl⟩, hW, hsame.mono (by decide) (by decide)⟩
  · skip
    refine X0.instanceofNull hx (g := (mkF m 1 #[.val (.ref a), .val .null] [.null])) rfl rfl (hb hby d9_1) _ ?_
    show Steps p.tables e below (s₁.setTop (mkF m 4 #[.val (.ref a), .val .null] [(.int (0 : Int32))])) _
    refine XS.ifYes X0.here hx rfl (pc0 := 4) (pc' := 42) rfl (hb hby d9_4) rfl (XT.i0_eq_t (by decide)) (by decide) (by decide) ?_
    show Steps p.tables e below (s₁.setTop (mkF m 42 #[.val (.ref a), .val .null] [])) _
    refine XS.iconst X0.here hx rfl (hb hby d9_42) ?_
    show Steps p.tables e below (s₁.setTop (mkF m 43 #[.val (.ref a), .val .null] [(.int (0 : Int32))])) _
    exact retN X0 hx (t := .boolean) Bd.returns (by simp) (hb hby d9_43) hr
  · show QEN Z a h0 n0 _ s₁.heap _
    rw [e0]
    exact ⟨rfl, N0, rfl⟩
theorem ef_rmES (m : MethodId) (x0 : Addr) (x1 : Addr) : entryFrame m #[(.ref x0), (.ref x1)] 2 = mkF m 0 #[.val (.ref x0), .val (.ref x1)] [] := by first | (simp [entryFrame, mkF, argsToLocals, Value.category]; done) | rfl
def QES (Z : State) (a : Addr) (b : Addr) (h0 : Heap) (n0 : Nat) (v : Option Value) (h : Heap) (L : List Loc) : Prop := v = some (.int (0 : Int32)) ∧ Fr n0 L ∧ h = h0
set_option maxRecDepth 65536 in
set_option maxHeartbeats 40000000 in
theorem rmES (l : Launch) (Z : State) (a0 : Array Value) (hw : ∀ d ∈ tables_1, d.before a0 Z = true) (ws : List Jvm.Cond) (a : Addr) (b : Addr) (h0 : Heap) (n0 : Nat) (Z0 : n0 ≤ h0.size) (E_b : Exa Z h0 b "java/lang/String") :
    MetFree l (⟨"com/example/postie/postie/config/Listen", "equals", "(Ljava/lang/Object;)Z"⟩ : MethodName) (head1 (Jvm.Cond.code (⟨"com/example/postie/postie/config/Listen", "equals", "(Ljava/lang/Object;)Z"⟩ : MethodName) prog_10_method_4_code 2 (some .boolean) :: ws) ({ frames := 0, cells := 0, slots := 0, locals := 0 } : Room)) (fun ar UU => ar = #[(.ref a), (.ref b)] ∧ Z.Warmed39 UU.vm ∧ UU.heap = h0) (fun _ _ _ _ _ => True) (fun _ UU oo UU' => ∃ vv LL, oo = .returned vv ∧ QES Z a b h0 n0 vv UU'.heap LL ∧ FrameEnd UU oo UU' LL ({ frames := 0, cells := 0, slots := 0, locals := 0 } : Room).cells ({ frames := 0, cells := 0, slots := 0, locals := 0 } : Room).slots) := by
  refine MetFree.of_bodySF (plainFor_of_name pn_9) hisR ?_
  intro p e s m args below meth c s₁ Bd hml0 hP hK
  obtain ⟨rfl, hZ, hh⟩ := hP
  have hx := Bd.exec
  have hby := Bd.bytes
  have hml : c.maxLocals = 2 := hml0
  have hown : s.vm.findClass "com/example/postie/postie/config/Listen" = some m.cls := findClass_of_methodNamed Bd.named
  have hnm := (name_of_methodNamed Bd.named Bd.method).1
  have X0 : Stand p l e ({ frames := 0, cells := 0, slots := 0, locals := 0 } : Room) s m #[(.ref a), (.ref b)] below meth c s₁ [] 0 0 := Stand.of_body Bd
  have e0 : s₁.heap = h0 := by rw [← hh, Bd.state]; rfl
  have N0 := Fr.nil n0
  have KC0 : Keep h0 h0 [] := Keep.refl h0 []
  have pre0 : ∀ tgt, Steps p.tables e below (s₁.setTop (mkF m 0 #[.val (.ref a), .val (.ref b)] [])) tgt → Steps p.tables e below (s₁.setTop (entryFrame m #[(.ref a), (.ref b)] 2)) tgt := fun tgt kk => castTop (ef_rmES m (a) (b)) kk
  have pre1 : ∀ tgt, Steps p.tables e below (s₁.setTop (mkF m 1 #[.val (.ref a), .val (.ref b)] [(.ref b)])) tgt → Steps p.tables e below (s₁.setTop (entryFrame m #[(.ref a), (.ref b)] 2)) tgt := by
    intro tgt kk
    refine pre0 tgt ?_
    refine XS.aloadN X0.here hx rfl (hb hby d9_0) rfl rfl ?_
    show Steps p.tables e below (s₁.setTop (mkF m 1 #[.val (.ref a), .val (.ref b)] [(.ref b)])) _
    exact kk
  obtain ⟨T2, X2, e2, st2⟩ := instNo X0 hx hZ hown (hw _ (List.mem_of_getElem? (i := 55) rfl)) e0 E_b (own_NS_no (hw _ (List.mem_of_getElem? (i := 78) rfl)) (hw _ (List.mem_of_getElem? (i := 31) rfl)) (NS.step (hw _ (List.mem_of_getElem? (i := 78) rfl)) (own_NS_root (hw _ (List.mem_of_getElem? (i := 79) rfl)) (hw _ (List.mem_of_getElem? (i := 31) rfl)) (by decide)) (by decide)) (by decide)) (g := (mkF m 1 #[.val (.ref a), .val (.ref b)] [(.ref b)])) rfl rfl (hb hby d9_1)
  obtain ⟨fs, hr, hrun, hended, hW, hsame⟩ := X2.leave (v := some (.int (0 : Int32))) (fun h => by rw [Bd.returns] at h; cases h)
  refine ⟨_, _, pre1 _ ?_, hrun, hended, _, _, rfl, ?_, ⟨_, rfl⟩, hW, hsame.mono (by decide) (by decide)⟩
  · skip
    refine st2 _ ?_
    show Steps p.tables e below (T2.setTop (mkF m 4 #[.val (.ref a), .val (.ref b)] [(.int (0 : Int32))])) _
    refine XS.ifYes X2.here hx rfl (pc0 := 4) (pc' := 42) rfl (hb hby d9_4) rfl (XT.i0_eq_t (by decide)) (by decide) (by decide) ?_
    show Steps p.tables e below (T2.setTop (mkF m 42 #[.val (.ref a), .val (.ref b)] [])) _
    refine XS.iconst X2.here hx rfl (hb hby d9_42) ?_
    show Steps p.tables e below (T2.setTop (mkF m 43 #[.val (.ref a), .val (.ref b)] [(.int (0 : Int32))])) _
    exact retN X2 hx (t := .boolean) Bd.returns (by simp) (hb hby d9_43) hr
  · show QES Z a b h0 n0 _ T2.heap _
    rw [e2]
    exact ⟨rfl, N0, rfl⟩
theorem pn_0 : plainName "com/example/postie/postie/config/ListenEqualsPinLaw" = true := by first | (simp [plainName, overriddenIn]; done) | decide +kernel
theorem pd__IICJI_C : parseMethodDescriptor "(IICJI)C" = some ⟨[.int, .int, .char, .long, .int], some .char⟩ := by decide +kernel
theorem pd___CI_Ljava_lang_String_ : parseMethodDescriptor "([CI)Ljava/lang/String;" = some ⟨[(.array .char), .int], some (.object "java/lang/String")⟩ := by decide +kernel
theorem pd__Ljava_lang_String_I_V : parseMethodDescriptor "(Ljava/lang/String;I)V" = some ⟨[(.object "java/lang/String"), .int], none⟩ := by decide +kernel
theorem pd___CI_CI_Z : parseMethodDescriptor "([CI[CI)Z" = some ⟨[(.array .char), .int, (.array .char), .int], some .boolean⟩ := by decide +kernel
theorem ef_rm0 (m : MethodId) (x0 : Int64) (x1 : Int64) (x2 : Int32) (x3 : Int32) (x4 : Int32) : entryFrame m #[(.long x0), (.long x1), (.int x2), (.int x3), (.int x4)] maxLocals = mkF m 0 #[.val (.long x0), .second, .val (.long x1), .second, .val (.int x2), .val (.int x3), .val (.int x4), .unset, .unset, .unset, .unset, .unset, .unset, .unset, .unset, .unset, .unset, .unset, .unset, .unset] [] := by first | (simp [entryFrame, mkF, argsToLocals, Value.category, maxLocals]; done) | rfl
def Q0 (Z : State) (q1 : Int64) (q2 : Int64) (p3 : Int32) (p4 : Int32) (p5 : Int32) (z0 : Int32) (h0 : Heap) (n0 : Nat) (v : Option Value) (h : Heap) (L : List Loc) : Prop := v = some (.int (1 : Int32)) ∧ Fr n0 L
set_option maxRecDepth 65536 in
set_option maxHeartbeats 40000000 in
theorem rm0 (l : Launch) (Z : State) (a0 : Array Value) (hw : ∀ d ∈ tables_1, d.before a0 Z = true) (ws : List Jvm.Cond) (q1 : Int64) (q2 : Int64) (p3 : Int32) (p4 : Int32) (p5 : Int32) (z0 : Int32) (h0 : Heap) (n0 : Nat) (Z0 : n0 ≤ h0.size) (S_CS : Sta Z h0 "java/lang/String" "COMPACT_STRINGS" "Z" (.int z0)) (hz : ¬ z0 = 0) :
    MetFree l x (head1 (Jvm.Cond.code x code maxLocals ret :: ws) room_1) (fun ar UU => ar = #[(.long q1), (.long q2), (.int p3), (.int p4), (.int p5)] ∧ Z.Warmed39 UU.vm ∧ UU.heap = h0 ∧ CHv Z own_EL UU.vm h0) (fun _ _ _ _ _ => True) (fun _ UU oo UU' => ∃ vv LL, oo = .returned vv ∧ Q0 Z q1 q2 p3 p4 p5 z0 h0 n0 vv UU'.heap LL ∧ CHr Z own_EL UU.vm UU.heap UU'.vm UU'.heap ∧ ReturnedEndW UU oo UU' LL room_1.cells room_1.slots) := by
  refine MetFree.of_bodySF (plainFor_of_name pn_0) hisR ?_
  intro p e s m args below meth c s₁ Bd hml0 hP hK
  obtain ⟨rfl, hZ, hh, hCv⟩ := hP
  have hx := Bd.exec
  have hby := Bd.bytes
  have hml : c.maxLocals = 20 := hml0
  have hown : s.vm.findClass "com/example/postie/postie/config/ListenEqualsPinLaw" = some m.cls := findClass_of_methodNamed Bd.named
  have hnm := (name_of_methodNamed Bd.named Bd.method).1
  have X0 : Stand p l e room_1 s m #[(.long q1), (.long q2), (.int p3), (.int p4), (.int p5)] below meth c s₁ [] 0 0 := Stand.of_body Bd
  have e0 : s₁.heap = h0 := by rw [← hh, Bd.state]; rfl
  have N0 := Fr.nil n0
  have hEL : EW Z a0 own_EL := own_EW hw
  have CH0 : CHr Z own_EL s.vm h0 s.vm h0 := CHr.refl hCv
  have KC0 : Keep h0 h0 [] := Keep.refl h0 []
  have pre0 : ∀ tgt, Steps p.tables e below (s₁.setTop (mkF m 0 #[.val (.long q1), .second, .val (.long q2), .second, .val (.int p3), .val (.int p4), .val (.int p5), .unset, .unset, .unset, .unset, .unset, .unset, .unset, .unset, .unset, .unset, .unset, .unset, .unset] [])) tgt → Steps p.tables e below (s₁.setTop (entryFrame m #[(.long q1), (.long q2), (.int p3), (.int p4), (.int p5)] maxLocals)) tgt := fun tgt kk => castTop (ef_rm0 m (q1) (q2) (p3) (p4) (p5)) kk
  have pre1 : ∀ tgt, Steps p.tables e below (s₁.setTop (mkF m 6 #[.val (.long q1), .second, .val (.long q2), .second, .val (.int p3), .val (.int p4), .val (.int p5), .val (.int (p5 &&& (3 : Int32))), .unset, .unset, .unset, .unset, .unset, .unset, .unset, .unset, .unset, .unset, .unset, .unset] [])) tgt → Steps p.tables e below (s₁.setTop (entryFrame m #[(.long q1), (.long q2), (.int p3), (.int p4), (.int p5)] maxLocals)) tgt := by
    intro tgt kk
    refine pre0 tgt ?_
    refine XS.iload X0.here hx rfl (hb hby at_0) rfl ?_
    show Steps p.tables e below (s₁.setTop (mkF m 2 #[.val (.long q1), .second, .val (.long q2), .second, .val (.int p3), .val (.int p4), .val (.int p5), .unset, .unset, .unset, .unset, .unset, .unset, .unset, .unset, .unset, .unset, .unset, .unset, .unset] [(.int p5)])) _
    refine XS.iconst X0.here hx rfl (hb hby at_2) ?_
    show Steps p.tables e below (s₁.setTop (mkF m 3 #[.val (.long q1), .second, .val (.long q2), .second, .val (.int p3), .val (.int p4), .val (.int p5), .unset, .unset, .unset, .unset, .unset, .unset, .unset, .unset, .unset, .unset, .unset, .unset, .unset] [(.int (3 : Int32)), (.int p5)])) _
    refine XS.iand X0.here hx rfl (hb hby at_3) rfl ?_
    show Steps p.tables e below (s₁.setTop (mkF m 4 #[.val (.long q1), .second, .val (.long q2), .second, .val (.int p3), .val (.int p4), .val (.int p5), .unset, .unset, .unset, .unset, .unset, .unset, .unset, .unset, .unset, .unset, .unset, .unset, .unset] [(.int (p5 &&& (3 : Int32)))])) _
    refine XS.istore X0.here hx rfl (hb hby at_4) rfl (l' := #[.val (.long q1), .second, .val (.long q2), .second, .val (.int p3), .val (.int p4), .val (.int p5), .val (.int (p5 &&& (3 : Int32))), .unset, .unset, .unset, .unset, .unset, .unset, .unset, .unset, .unset, .unset, .unset, .unset]) rfl ?_
    show Steps p.tables e below (s₁.setTop (mkF m 6 #[.val (.long q1), .second, .val (.long q2), .second, .val (.int p3), .val (.int p4), .val (.int p5), .val (.int (p5 &&& (3 : Int32))), .unset, .unset, .unset, .unset, .unset, .unset, .unset, .unset, .unset, .unset, .unset, .unset] [])) _
    exact kk
  obtain ⟨l1, hl1e⟩ : ∃ z, z = (p5 &&& (3 : Int32)) := ⟨_, rfl⟩
  have hl1 : l1 = 0 ∨ l1 = 1 ∨ l1 = 2 ∨ l1 = 3 := by rw [hl1e]; exact own_r4 _
  rw [← hl1e] at pre1
  have pre2 : ∀ tgt, Steps p.tables e below (s₁.setTop (mkF m 7 #[.val (.long q1), .second, .val (.long q2), .second, .val (.int p3), .val (.int p4), .val (.int p5), .val (.int l1), .unset, .unset, .unset, .unset, .unset, .unset, .unset, .unset, .unset, .unset, .unset, .unset] [(.int (3 : Int32))])) tgt → Steps p.tables e below (s₁.setTop (entryFrame m #[(.long q1), (.long q2), (.int p3), (.int p4), (.int p5)] maxLocals)) tgt := by
    intro tgt kk
    refine pre1 tgt ?_
    refine XS.iconst X0.here hx rfl (hb hby at_6) ?_
    show Steps p.tables e below (s₁.setTop (mkF m 7 #[.val (.long q1), .second, .val (.long q2), .second, .val (.int p3), .val (.int p4), .val (.int p5), .val (.int l1), .unset, .unset, .unset, .unset, .unset, .unset, .unset, .unset, .unset, .unset, .unset, .unset] [(.int (3 : Int32))])) _
    exact kk
  obtain ⟨T3, h3, k3, X3, e3, E3, A3, st3⟩ := newP X0 hx hZ (hw _ (List.mem_of_getElem? (i := 0) rfl)) e0 (g := (mkF m 7 #[.val (.long q1), .second, .val (.long q2), .second, .val (.int p3), .val (.int p4), .val (.int p5), .val (.int l1), .unset, .unset, .unset, .unset, .unset, .unset, .unset, .unset, .unset, .unset, .unset, .unset] [(.int (3 : Int32))])) rfl (hb hby at_7) rfl (by decide) (cap := 3) (by decide) (by decide) (by decide) (by decide)
  obtain ⟨b3, g3⟩ : ∃ z, z = h0.size := ⟨_, rfl⟩
  rw [← g3] at A3 st3
  have gn4 : n0 ≤ b3 := Nat.le_trans Z0 (Nat.le_of_eq g3.symm)
  have sz4 : h0.size ≤ b3 := Nat.le_trans KC0.1 (Nat.le_of_eq g3.symm)
  have CA5 : CHr Z own_EL s.vm h0 s.vm h3 := CHr.ext E3 CH0.1
  have CH5 : CHr Z own_EL s.vm h0 s.vm h3 := CH0.trans CA5
  have S_CS : Sta Z h3 "java/lang/String" "COMPACT_STRINGS" "Z" (.int z0) := S_CS.ext E3
  have Zs6 : n0 ≤ h3.size := Nat.le_trans Z0 E3.1
  have KC6 : Keep h0 h3 [] := KC0.ext E3
  have V_b3 : Arv Z h3 b3 k3 .char (3 : Int32) [(.int (0 : Int32)), (.int (0 : Int32)), (.int (0 : Int32))] (.int (0 : Int32)) := (Arv.new A3 (by decide)).pad (pad_rep [] (.int (0 : Int32)) 3)
  have Sn7 := Safe.ext E3 CH0.1 (Safe.new (Nat.le_of_eq g3.symm))
  have pre8 : ∀ tgt, Steps p.tables e below (T3.setTop (mkF m 21 #[.val (.long q1), .second, .val (.long q2), .second, .val (.int p3), .val (.int p4), .val (.int p5), .val (.int l1), .val (.ref b3), .unset, .unset, .unset, .unset, .unset, .unset, .unset, .unset, .unset, .unset, .unset] [(.int (q1 &&& (255 : Int64)).toInt32.toUInt32.toUInt16.toUInt32.toInt32), (.int (0 : Int32)), (.ref b3)])) tgt → Steps p.tables e below (s₁.setTop (entryFrame m #[(.long q1), (.long q2), (.int p3), (.int p4), (.int p5)] maxLocals)) tgt := by
    intro tgt kk
    refine pre2 tgt ?_
    refine st3 _ ?_
    show Steps p.tables e below (T3.setTop (mkF m 9 #[.val (.long q1), .second, .val (.long q2), .second, .val (.int p3), .val (.int p4), .val (.int p5), .val (.int l1), .unset, .unset, .unset, .unset, .unset, .unset, .unset, .unset, .unset, .unset, .unset, .unset] [(.ref b3)])) _
    refine XS.astore X3.here hx rfl (hb hby at_9) rfl rfl (l' := #[.val (.long q1), .second, .val (.long q2), .second, .val (.int p3), .val (.int p4), .val (.int p5), .val (.int l1), .val (.ref b3), .unset, .unset, .unset, .unset, .unset, .unset, .unset, .unset, .unset, .unset, .unset]) rfl ?_
    show Steps p.tables e below (T3.setTop (mkF m 11 #[.val (.long q1), .second, .val (.long q2), .second, .val (.int p3), .val (.int p4), .val (.int p5), .val (.int l1), .val (.ref b3), .unset, .unset, .unset, .unset, .unset, .unset, .unset, .unset, .unset, .unset, .unset] [])) _
    refine XS.aload X3.here hx rfl (hb hby at_11) rfl rfl ?_
    show Steps p.tables e below (T3.setTop (mkF m 13 #[.val (.long q1), .second, .val (.long q2), .second, .val (.int p3), .val (.int p4), .val (.int p5), .val (.int l1), .val (.ref b3), .unset, .unset, .unset, .unset, .unset, .unset, .unset, .unset, .unset, .unset, .unset] [(.ref b3)])) _
    refine XS.iconst X3.here hx rfl (hb hby at_13) ?_
    show Steps p.tables e below (T3.setTop (mkF m 14 #[.val (.long q1), .second, .val (.long q2), .second, .val (.int p3), .val (.int p4), .val (.int p5), .val (.int l1), .val (.ref b3), .unset, .unset, .unset, .unset, .unset, .unset, .unset, .unset, .unset, .unset, .unset] [(.int (0 : Int32)), (.ref b3)])) _
    refine XS.lloadN X3.here hx rfl (hb hby at_14) rfl ?_
    show Steps p.tables e below (T3.setTop (mkF m 15 #[.val (.long q1), .second, .val (.long q2), .second, .val (.int p3), .val (.int p4), .val (.int p5), .val (.int l1), .val (.ref b3), .unset, .unset, .unset, .unset, .unset, .unset, .unset, .unset, .unset, .unset, .unset] [(.long q1), (.int (0 : Int32)), (.ref b3)])) _
    refine X3.ldc2Long hx hown (mvT hZ (hw _ (List.mem_of_getElem? (i := 1) rfl))) (g := (mkF m 15 #[.val (.long q1), .second, .val (.long q2), .second, .val (.int p3), .val (.int p4), .val (.int p5), .val (.int l1), .val (.ref b3), .unset, .unset, .unset, .unset, .unset, .unset, .unset, .unset, .unset, .unset, .unset] [(.long q1), (.int (0 : Int32)), (.ref b3)])) rfl (hb hby at_15) _ ?_
    show Steps p.tables e below (T3.setTop (mkF m 18 #[.val (.long q1), .second, .val (.long q2), .second, .val (.int p3), .val (.int p4), .val (.int p5), .val (.int l1), .val (.ref b3), .unset, .unset, .unset, .unset, .unset, .unset, .unset, .unset, .unset, .unset, .unset] [(.long (255 : Int64)), (.long q1), (.int (0 : Int32)), (.ref b3)])) _
    refine XS.land X3.here hx rfl (hb hby at_18) rfl ?_
    show Steps p.tables e below (T3.setTop (mkF m 19 #[.val (.long q1), .second, .val (.long q2), .second, .val (.int p3), .val (.int p4), .val (.int p5), .val (.int l1), .val (.ref b3), .unset, .unset, .unset, .unset, .unset, .unset, .unset, .unset, .unset, .unset, .unset] [(.long (q1 &&& (255 : Int64))), (.int (0 : Int32)), (.ref b3)])) _
    refine XS.l2i X3.here hx rfl (hb hby at_19) rfl ?_
    show Steps p.tables e below (T3.setTop (mkF m 20 #[.val (.long q1), .second, .val (.long q2), .second, .val (.int p3), .val (.int p4), .val (.int p5), .val (.int l1), .val (.ref b3), .unset, .unset, .unset, .unset, .unset, .unset, .unset, .unset, .unset, .unset, .unset] [(.int (q1 &&& (255 : Int64)).toInt32), (.int (0 : Int32)), (.ref b3)])) _
    refine XS.i2c X3.here hx rfl (hb hby at_20) rfl ?_
    show Steps p.tables e below (T3.setTop (mkF m 21 #[.val (.long q1), .second, .val (.long q2), .second, .val (.int p3), .val (.int p4), .val (.int p5), .val (.int l1), .val (.ref b3), .unset, .unset, .unset, .unset, .unset, .unset, .unset, .unset, .unset, .unset, .unset] [(.int (q1 &&& (255 : Int64)).toInt32.toUInt32.toUInt16.toUInt32.toInt32), (.int (0 : Int32)), (.ref b3)])) _
    exact kk
  obtain ⟨cl9, Ar9, aq9, aS9, aN9, aH9, aG9⟩ := id V_b3
  have hin10 : ¬ ((0 : Int32) < 0 ∨ cl9.slots.size ≤ ((0 : Int32)).toNatClampNeg) := inb_of aS9 ⟨by decide, by decide⟩
  obtain ⟨T10, h10, X10, e10, W10, st10⟩ := stC X3 hx hZ e3 Ar9 (j := (0 : Int32)) hin10 (g := (mkF m 21 #[.val (.long q1), .second, .val (.long q2), .second, .val (.int p3), .val (.int p4), .val (.int p5), .val (.int l1), .val (.ref b3), .unset, .unset, .unset, .unset, .unset, .unset, .unset, .unset, .unset, .unset, .unset] [(.int (q1 &&& (255 : Int64)).toInt32.toUInt32.toUInt16.toUInt32.toInt32), (.int (0 : Int32)), (.ref b3)])) rfl rfl (hb hby at_21)
  have N10 := Fr.snoc X10 N0 gn4
  have Vq10 : Arv Z h10 b3 k3 .char (3 : Int32) [(.int (nar .char (q1 &&& (255 : Int64)).toInt32.toUInt32.toUInt16.toUInt32.toInt32)), (.int (0 : Int32)), (.int (0 : Int32))] (.int (0 : Int32)) := Arv.set Ar9 aq9 aS9 aN9 aH9 aG9 (fits_nar_char _) W10 0 rfl (Nat.le_of_ble_eq_true rfl)
  have ltS11_0 := V_b3.lt
  have CA11 : CHr Z own_EL s.vm h3 s.vm h10 := CHr.wr W10 Sn7 CH5.1
  have CH11 : CHr Z own_EL s.vm h0 s.vm h10 := CH5.trans CA11
  have Sf11_ltS11_0 := CA11.safe ltS11_0 Sn7
  have S_CS : Sta Z h10 "java/lang/String" "COMPACT_STRINGS" "Z" (.int z0) := S_CS.wr W10
  have Zs12 : n0 ≤ h10.size := Nat.le_trans Zs6 (Keep.of_wr W10).1
  have KC12 : Keep h0 h10 [] := KC6.wr W10 (Or.inr sz4)
  have V_b3 := Vq10
  have pre13 : ∀ tgt, Steps p.tables e below (T10.setTop (mkF m 35 #[.val (.long q1), .second, .val (.long q2), .second, .val (.int p3), .val (.int p4), .val (.int p5), .val (.int l1), .val (.ref b3), .unset, .unset, .unset, .unset, .unset, .unset, .unset, .unset, .unset, .unset, .unset] [(.int (((q1.toUInt64 >>> ((8 : Int32) &&& 0x3f).toInt64.toUInt64).toInt64) &&& (255 : Int64)).toInt32.toUInt32.toUInt16.toUInt32.toInt32), (.int (1 : Int32)), (.ref b3)])) tgt → Steps p.tables e below (s₁.setTop (entryFrame m #[(.long q1), (.long q2), (.int p3), (.int p4), (.int p5)] maxLocals)) tgt := by
    intro tgt kk
    refine pre8 tgt ?_
    refine st10 _ ?_
    show Steps p.tables e below (T10.setTop (mkF m 22 #[.val (.long q1), .second, .val (.long q2), .second, .val (.int p3), .val (.int p4), .val (.int p5), .val (.int l1), .val (.ref b3), .unset, .unset, .unset, .unset, .unset, .unset, .unset, .unset, .unset, .unset, .unset] [])) _
    refine XS.aload X10.here hx rfl (hb hby at_22) rfl rfl ?_
    show Steps p.tables e below (T10.setTop (mkF m 24 #[.val (.long q1), .second, .val (.long q2), .second, .val (.int p3), .val (.int p4), .val (.int p5), .val (.int l1), .val (.ref b3), .unset, .unset, .unset, .unset, .unset, .unset, .unset, .unset, .unset, .unset, .unset] [(.ref b3)])) _
    refine XS.iconst X10.here hx rfl (hb hby at_24) ?_
    show Steps p.tables e below (T10.setTop (mkF m 25 #[.val (.long q1), .second, .val (.long q2), .second, .val (.int p3), .val (.int p4), .val (.int p5), .val (.int l1), .val (.ref b3), .unset, .unset, .unset, .unset, .unset, .unset, .unset, .unset, .unset, .unset, .unset] [(.int (1 : Int32)), (.ref b3)])) _
    refine XS.lloadN X10.here hx rfl (hb hby at_25) rfl ?_
    show Steps p.tables e below (T10.setTop (mkF m 26 #[.val (.long q1), .second, .val (.long q2), .second, .val (.int p3), .val (.int p4), .val (.int p5), .val (.int l1), .val (.ref b3), .unset, .unset, .unset, .unset, .unset, .unset, .unset, .unset, .unset, .unset, .unset] [(.long q1), (.int (1 : Int32)), (.ref b3)])) _
    refine XS.bipush X10.here hx rfl (hb hby at_26) ?_
    show Steps p.tables e below (T10.setTop (mkF m 28 #[.val (.long q1), .second, .val (.long q2), .second, .val (.int p3), .val (.int p4), .val (.int p5), .val (.int l1), .val (.ref b3), .unset, .unset, .unset, .unset, .unset, .unset, .unset, .unset, .unset, .unset, .unset] [(.int (8 : Int32)), (.long q1), (.int (1 : Int32)), (.ref b3)])) _
    refine XS.lushr X10.here hx rfl (hb hby at_28) rfl ?_
    show Steps p.tables e below (T10.setTop (mkF m 29 #[.val (.long q1), .second, .val (.long q2), .second, .val (.int p3), .val (.int p4), .val (.int p5), .val (.int l1), .val (.ref b3), .unset, .unset, .unset, .unset, .unset, .unset, .unset, .unset, .unset, .unset, .unset] [(.long ((q1.toUInt64 >>> ((8 : Int32) &&& 0x3f).toInt64.toUInt64).toInt64)), (.int (1 : Int32)), (.ref b3)])) _
    refine X10.ldc2Long hx hown (mvT hZ (hw _ (List.mem_of_getElem? (i := 1) rfl))) (g := (mkF m 29 #[.val (.long q1), .second, .val (.long q2), .second, .val (.int p3), .val (.int p4), .val (.int p5), .val (.int l1), .val (.ref b3), .unset, .unset, .unset, .unset, .unset, .unset, .unset, .unset, .unset, .unset, .unset] [(.long ((q1.toUInt64 >>> ((8 : Int32) &&& 0x3f).toInt64.toUInt64).toInt64)), (.int (1 : Int32)), (.ref b3)])) rfl (hb hby at_29) _ ?_
    show Steps p.tables e below (T10.setTop (mkF m 32 #[.val (.long q1), .second, .val (.long q2), .second, .val (.int p3), .val (.int p4), .val (.int p5), .val (.int l1), .val (.ref b3), .unset, .unset, .unset, .unset, .unset, .unset, .unset, .unset, .unset, .unset, .unset] [(.long (255 : Int64)), (.long ((q1.toUInt64 >>> ((8 : Int32) &&& 0x3f).toInt64.toUInt64).toInt64)), (.int (1 : Int32)), (.ref b3)])) _
    refine XS.land X10.here hx rfl (hb hby at_32) rfl ?_
    show Steps p.tables e below (T10.setTop (mkF m 33 #[.val (.long q1), .second, .val (.long q2), .second, .val (.int p3), .val (.int p4), .val (.int p5), .val (.int l1), .val (.ref b3), .unset, .unset, .unset, .unset, .unset, .unset, .unset, .unset, .unset, .unset, .unset] [(.long (((q1.toUInt64 >>> ((8 : Int32) &&& 0x3f).toInt64.toUInt64).toInt64) &&& (255 : Int64))), (.int (1 : Int32)), (.ref b3)])) _
    refine XS.l2i X10.here hx rfl (hb hby at_33) rfl ?_
    show Steps p.tables e below (T10.setTop (mkF m 34 #[.val (.long q1), .second, .val (.long q2), .second, .val (.int p3), .val (.int p4), .val (.int p5), .val (.int l1), .val (.ref b3), .unset, .unset, .unset, .unset, .unset, .unset, .unset, .unset, .unset, .unset, .unset] [(.int (((q1.toUInt64 >>> ((8 : Int32) &&& 0x3f).toInt64.toUInt64).toInt64) &&& (255 : Int64)).toInt32), (.int (1 : Int32)), (.ref b3)])) _
    refine XS.i2c X10.here hx rfl (hb hby at_34) rfl ?_
    show Steps p.tables e below (T10.setTop (mkF m 35 #[.val (.long q1), .second, .val (.long q2), .second, .val (.int p3), .val (.int p4), .val (.int p5), .val (.int l1), .val (.ref b3), .unset, .unset, .unset, .unset, .unset, .unset, .unset, .unset, .unset, .unset, .unset] [(.int (((q1.toUInt64 >>> ((8 : Int32) &&& 0x3f).toInt64.toUInt64).toInt64) &&& (255 : Int64)).toInt32.toUInt32.toUInt16.toUInt32.toInt32), (.int (1 : Int32)), (.ref b3)])) _
    exact kk
  obtain ⟨cl14, Ar14, aq14, aS14, aN14, aH14, aG14⟩ := id V_b3
  have hin15 : ¬ ((1 : Int32) < 0 ∨ cl14.slots.size ≤ ((1 : Int32)).toNatClampNeg) := inb_of aS14 ⟨by decide, by decide⟩
  obtain ⟨T15, h15, X15, e15, W15, st15⟩ := stC X10 hx hZ e10 Ar14 (j := (1 : Int32)) hin15 (g := (mkF m 35 #[.val (.long q1), .second, .val (.long q2), .second, .val (.int p3), .val (.int p4), .val (.int p5), .val (.int l1), .val (.ref b3), .unset, .unset, .unset, .unset, .unset, .unset, .unset, .unset, .unset, .unset, .unset] [(.int (((q1.toUInt64 >>> ((8 : Int32) &&& 0x3f).toInt64.toUInt64).toInt64) &&& (255 : Int64)).toInt32.toUInt32.toUInt16.toUInt32.toInt32), (.int (1 : Int32)), (.ref b3)])) rfl rfl (hb hby at_35)
  have N15 := Fr.snoc X15 N10 gn4
  have Vq15 : Arv Z h15 b3 k3 .char (3 : Int32) [(.int (nar .char (q1 &&& (255 : Int64)).toInt32.toUInt32.toUInt16.toUInt32.toInt32)), (.int (nar .char (((q1.toUInt64 >>> ((8 : Int32) &&& 0x3f).toInt64.toUInt64).toInt64) &&& (255 : Int64)).toInt32.toUInt32.toUInt16.toUInt32.toInt32)), (.int (0 : Int32))] (.int (0 : Int32)) := Arv.set Ar14 aq14 aS14 aN14 aH14 aG14 (fits_nar_char _) W15 1 rfl (Nat.le_of_ble_eq_true rfl)
  have ltS16_0 := V_b3.lt
  have CA16 : CHr Z own_EL s.vm h10 s.vm h15 := CHr.wr W15 Sf11_ltS11_0 CH11.1
  have CH16 : CHr Z own_EL s.vm h0 s.vm h15 := CH11.trans CA16
  have Sf16_ltS16_0 := CA16.safe ltS16_0 Sf11_ltS11_0
  have S_CS : Sta Z h15 "java/lang/String" "COMPACT_STRINGS" "Z" (.int z0) := S_CS.wr W15
  have Zs17 : n0 ≤ h15.size := Nat.le_trans Zs12 (Keep.of_wr W15).1
  have KC17 : Keep h0 h15 [] := KC12.wr W15 (Or.inr sz4)
  have V_b3 := Vq15
  have pre18 : ∀ tgt, Steps p.tables e below (T15.setTop (mkF m 49 #[.val (.long q1), .second, .val (.long q2), .second, .val (.int p3), .val (.int p4), .val (.int p5), .val (.int l1), .val (.ref b3), .unset, .unset, .unset, .unset, .unset, .unset, .unset, .unset, .unset, .unset, .unset] [(.int (((q1.toUInt64 >>> ((16 : Int32) &&& 0x3f).toInt64.toUInt64).toInt64) &&& (255 : Int64)).toInt32.toUInt32.toUInt16.toUInt32.toInt32), (.int (2 : Int32)), (.ref b3)])) tgt → Steps p.tables e below (s₁.setTop (entryFrame m #[(.long q1), (.long q2), (.int p3), (.int p4), (.int p5)] maxLocals)) tgt := by
    intro tgt kk
    refine pre13 tgt ?_
    refine st15 _ ?_
    show Steps p.tables e below (T15.setTop (mkF m 36 #[.val (.long q1), .second, .val (.long q2), .second, .val (.int p3), .val (.int p4), .val (.int p5), .val (.int l1), .val (.ref b3), .unset, .unset, .unset, .unset, .unset, .unset, .unset, .unset, .unset, .unset, .unset] [])) _
    refine XS.aload X15.here hx rfl (hb hby at_36) rfl rfl ?_
    show Steps p.tables e below (T15.setTop (mkF m 38 #[.val (.long q1), .second, .val (.long q2), .second, .val (.int p3), .val (.int p4), .val (.int p5), .val (.int l1), .val (.ref b3), .unset, .unset, .unset, .unset, .unset, .unset, .unset, .unset, .unset, .unset, .unset] [(.ref b3)])) _
    refine XS.iconst X15.here hx rfl (hb hby at_38) ?_
    show Steps p.tables e below (T15.setTop (mkF m 39 #[.val (.long q1), .second, .val (.long q2), .second, .val (.int p3), .val (.int p4), .val (.int p5), .val (.int l1), .val (.ref b3), .unset, .unset, .unset, .unset, .unset, .unset, .unset, .unset, .unset, .unset, .unset] [(.int (2 : Int32)), (.ref b3)])) _
    refine XS.lloadN X15.here hx rfl (hb hby at_39) rfl ?_
    show Steps p.tables e below (T15.setTop (mkF m 40 #[.val (.long q1), .second, .val (.long q2), .second, .val (.int p3), .val (.int p4), .val (.int p5), .val (.int l1), .val (.ref b3), .unset, .unset, .unset, .unset, .unset, .unset, .unset, .unset, .unset, .unset, .unset] [(.long q1), (.int (2 : Int32)), (.ref b3)])) _
    refine XS.bipush X15.here hx rfl (hb hby at_40) ?_
    show Steps p.tables e below (T15.setTop (mkF m 42 #[.val (.long q1), .second, .val (.long q2), .second, .val (.int p3), .val (.int p4), .val (.int p5), .val (.int l1), .val (.ref b3), .unset, .unset, .unset, .unset, .unset, .unset, .unset, .unset, .unset, .unset, .unset] [(.int (16 : Int32)), (.long q1), (.int (2 : Int32)), (.ref b3)])) _
    refine XS.lushr X15.here hx rfl (hb hby at_42) rfl ?_
    show Steps p.tables e below (T15.setTop (mkF m 43 #[.val (.long q1), .second, .val (.long q2), .second, .val (.int p3), .val (.int p4), .val (.int p5), .val (.int l1), .val (.ref b3), .unset, .unset, .unset, .unset, .unset, .unset, .unset, .unset, .unset, .unset, .unset] [(.long ((q1.toUInt64 >>> ((16 : Int32) &&& 0x3f).toInt64.toUInt64).toInt64)), (.int (2 : Int32)), (.ref b3)])) _
    refine X15.ldc2Long hx hown (mvT hZ (hw _ (List.mem_of_getElem? (i := 1) rfl))) (g := (mkF m 43 #[.val (.long q1), .second, .val (.long q2), .second, .val (.int p3), .val (.int p4), .val (.int p5), .val (.int l1), .val (.ref b3), .unset, .unset, .unset, .unset, .unset, .unset, .unset, .unset, .unset, .unset, .unset] [(.long ((q1.toUInt64 >>> ((16 : Int32) &&& 0x3f).toInt64.toUInt64).toInt64)), (.int (2 : Int32)), (.ref b3)])) rfl (hb hby at_43) _ ?_
    show Steps p.tables e below (T15.setTop (mkF m 46 #[.val (.long q1), .second, .val (.long q2), .second, .val (.int p3), .val (.int p4), .val (.int p5), .val (.int l1), .val (.ref b3), .unset, .unset, .unset, .unset, .unset, .unset, .unset, .unset, .unset, .unset, .unset] [(.long (255 : Int64)), (.long ((q1.toUInt64 >>> ((16 : Int32) &&& 0x3f).toInt64.toUInt64).toInt64)), (.int (2 : Int32)), (.ref b3)])) _
    refine XS.land X15.here hx rfl (hb hby at_46) rfl ?_
    show Steps p.tables e below (T15.setTop (mkF m 47 #[.val (.long q1), .second, .val (.long q2), .second, .val (.int p3), .val (.int p4), .val (.int p5), .val (.int l1), .val (.ref b3), .unset, .unset, .unset, .unset, .unset, .unset, .unset, .unset, .unset, .unset, .unset] [(.long (((q1.toUInt64 >>> ((16 : Int32) &&& 0x3f).toInt64.toUInt64).toInt64) &&& (255 : Int64))), (.int (2 : Int32)), (.ref b3)])) _
    refine XS.l2i X15.here hx rfl (hb hby at_47) rfl ?_
    show Steps p.tables e below (T15.setTop (mkF m 48 #[.val (.long q1), .second, .val (.long q2), .second, .val (.int p3), .val (.int p4), .val (.int p5), .val (.int l1), .val (.ref b3), .unset, .unset, .unset, .unset, .unset, .unset, .unset, .unset, .unset, .unset, .unset] [(.int (((q1.toUInt64 >>> ((16 : Int32) &&& 0x3f).toInt64.toUInt64).toInt64) &&& (255 : Int64)).toInt32), (.int (2 : Int32)), (.ref b3)])) _
    refine XS.i2c X15.here hx rfl (hb hby at_48) rfl ?_
    show Steps p.tables e below (T15.setTop (mkF m 49 #[.val (.long q1), .second, .val (.long q2), .second, .val (.int p3), .val (.int p4), .val (.int p5), .val (.int l1), .val (.ref b3), .unset, .unset, .unset, .unset, .unset, .unset, .unset, .unset, .unset, .unset, .unset] [(.int (((q1.toUInt64 >>> ((16 : Int32) &&& 0x3f).toInt64.toUInt64).toInt64) &&& (255 : Int64)).toInt32.toUInt32.toUInt16.toUInt32.toInt32), (.int (2 : Int32)), (.ref b3)])) _
    exact kk
  obtain ⟨cl19, Ar19, aq19, aS19, aN19, aH19, aG19⟩ := id V_b3
  have hin20 : ¬ ((2 : Int32) < 0 ∨ cl19.slots.size ≤ ((2 : Int32)).toNatClampNeg) := inb_of aS19 ⟨by decide, by decide⟩
  obtain ⟨T20, h20, X20, e20, W20, st20⟩ := stC X15 hx hZ e15 Ar19 (j := (2 : Int32)) hin20 (g := (mkF m 49 #[.val (.long q1), .second, .val (.long q2), .second, .val (.int p3), .val (.int p4), .val (.int p5), .val (.int l1), .val (.ref b3), .unset, .unset, .unset, .unset, .unset, .unset, .unset, .unset, .unset, .unset, .unset] [(.int (((q1.toUInt64 >>> ((16 : Int32) &&& 0x3f).toInt64.toUInt64).toInt64) &&& (255 : Int64)).toInt32.toUInt32.toUInt16.toUInt32.toInt32), (.int (2 : Int32)), (.ref b3)])) rfl rfl (hb hby at_49)
  have N20 := Fr.snoc X20 N15 gn4
  have Vq20 : Arv Z h20 b3 k3 .char (3 : Int32) [(.int (nar .char (q1 &&& (255 : Int64)).toInt32.toUInt32.toUInt16.toUInt32.toInt32)), (.int (nar .char (((q1.toUInt64 >>> ((8 : Int32) &&& 0x3f).toInt64.toUInt64).toInt64) &&& (255 : Int64)).toInt32.toUInt32.toUInt16.toUInt32.toInt32)), (.int (nar .char (((q1.toUInt64 >>> ((16 : Int32) &&& 0x3f).toInt64.toUInt64).toInt64) &&& (255 : Int64)).toInt32.toUInt32.toUInt16.toUInt32.toInt32))] (.int (0 : Int32)) := Arv.set Ar19 aq19 aS19 aN19 aH19 aG19 (fits_nar_char _) W20 2 rfl (Nat.le_of_ble_eq_true rfl)
  have ltS21_0 := V_b3.lt
  have CA21 : CHr Z own_EL s.vm h15 s.vm h20 := CHr.wr W20 Sf16_ltS16_0 CH16.1
  have CH21 : CHr Z own_EL s.vm h0 s.vm h20 := CH16.trans CA21
  have Sf21_ltS21_0 := CA21.safe ltS21_0 Sf16_ltS16_0
  have S_CS : Sta Z h20 "java/lang/String" "COMPACT_STRINGS" "Z" (.int z0) := S_CS.wr W20
  have Zs22 : n0 ≤ h20.size := Nat.le_trans Zs17 (Keep.of_wr W20).1
  have KC22 : Keep h0 h20 [] := KC17.wr W20 (Or.inr sz4)
  have V_b3 := Vq20
  have pre23 : ∀ tgt, Steps p.tables e below (T20.setTop (mkF m 50 #[.val (.long q1), .second, .val (.long q2), .second, .val (.int p3), .val (.int p4), .val (.int p5), .val (.int l1), .val (.ref b3), .unset, .unset, .unset, .unset, .unset, .unset, .unset, .unset, .unset, .unset, .unset] [])) tgt → Steps p.tables e below (s₁.setTop (entryFrame m #[(.long q1), (.long q2), (.int p3), (.int p4), (.int p5)] maxLocals)) tgt := by
    intro tgt kk
    refine pre18 tgt ?_
    refine st20 _ ?_
    show Steps p.tables e below (T20.setTop (mkF m 50 #[.val (.long q1), .second, .val (.long q2), .second, .val (.int p3), .val (.int p4), .val (.int p5), .val (.int l1), .val (.ref b3), .unset, .unset, .unset, .unset, .unset, .unset, .unset, .unset, .unset, .unset, .unset] [])) _
    exact kk
  obtain ⟨x0, hx0e⟩ : ∃ z, z = (nar .char (q1 &&& (255 : Int64)).toInt32.toUInt32.toUInt16.toUInt32.toInt32) := ⟨_, rfl⟩
  have hpx0 : ¬ x0 < 0 ∧ ¬ (255 : Int32) < x0 := by rw [hx0e]; exact own_chL _
  obtain ⟨x1, hx1e⟩ : ∃ z, z = (nar .char (((q1.toUInt64 >>> ((8 : Int32) &&& 0x3f).toInt64.toUInt64).toInt64) &&& (255 : Int64)).toInt32.toUInt32.toUInt16.toUInt32.toInt32) := ⟨_, rfl⟩
  have hpx1 : ¬ x1 < 0 ∧ ¬ (255 : Int32) < x1 := by rw [hx1e]; exact own_chL _
  obtain ⟨x2, hx2e⟩ : ∃ z, z = (nar .char (((q1.toUInt64 >>> ((16 : Int32) &&& 0x3f).toInt64.toUInt64).toInt64) &&& (255 : Int64)).toInt32.toUInt32.toUInt16.toUInt32.toInt32) := ⟨_, rfl⟩
  have hpx2 : ¬ x2 < 0 ∧ ¬ (255 : Int32) < x2 := by rw [hx2e]; exact own_chL _
  rw [← hx0e, ← hx1e, ← hx2e] at V_b3
  have pre24 : ∀ tgt, Steps p.tables e below (T20.setTop (mkF m 51 #[.val (.long q1), .second, .val (.long q2), .second, .val (.int p3), .val (.int p4), .val (.int p5), .val (.int l1), .val (.ref b3), .unset, .unset, .unset, .unset, .unset, .unset, .unset, .unset, .unset, .unset, .unset] [(.int (3 : Int32))])) tgt → Steps p.tables e below (s₁.setTop (entryFrame m #[(.long q1), (.long q2), (.int p3), (.int p4), (.int p5)] maxLocals)) tgt := by
    intro tgt kk
    refine pre23 tgt ?_
    refine XS.iconst X20.here hx rfl (hb hby at_50) ?_
    show Steps p.tables e below (T20.setTop (mkF m 51 #[.val (.long q1), .second, .val (.long q2), .second, .val (.int p3), .val (.int p4), .val (.int p5), .val (.int l1), .val (.ref b3), .unset, .unset, .unset, .unset, .unset, .unset, .unset, .unset, .unset, .unset, .unset] [(.int (3 : Int32))])) _
    exact kk
  obtain ⟨T25, h25, k25, X25, e25, E25, A25, st25⟩ := newP X20 hx hZ (hw _ (List.mem_of_getElem? (i := 0) rfl)) e20 (g := (mkF m 51 #[.val (.long q1), .second, .val (.long q2), .second, .val (.int p3), .val (.int p4), .val (.int p5), .val (.int l1), .val (.ref b3), .unset, .unset, .unset, .unset, .unset, .unset, .unset, .unset, .unset, .unset, .unset] [(.int (3 : Int32))])) rfl (hb hby at_51) rfl (by decide) (cap := 3) (by decide) (by decide) (by decide) (by decide)
  obtain ⟨b25, g25⟩ : ∃ z, z = h20.size := ⟨_, rfl⟩
  rw [← g25] at A25 st25
  have ne26 : b3 ≠ b25 := Nat.ne_of_lt (Nat.lt_of_lt_of_le V_b3.lt (Nat.le_of_eq g25.symm))
  have gn27 : n0 ≤ b25 := Nat.le_trans Zs22 (Nat.le_of_eq g25.symm)
  have sz27 : h0.size ≤ b25 := Nat.le_trans KC22.1 (Nat.le_of_eq g25.symm)
  have ltS28_0 := V_b3.lt
  have CA28 : CHr Z own_EL s.vm h20 s.vm h25 := CHr.ext E25 CH21.1
  have CH28 : CHr Z own_EL s.vm h0 s.vm h25 := CH21.trans CA28
  have Sf28_ltS28_0 := CA28.safe ltS28_0 Sf21_ltS21_0
  have S_CS : Sta Z h25 "java/lang/String" "COMPACT_STRINGS" "Z" (.int z0) := S_CS.ext E25
  have V_b3 : Arv Z h25 b3 k3 .char (3 : Int32) [(.int x0), (.int x1), (.int x2)] (.int (0 : Int32)) := V_b3.ext E25
  have Zs29 : n0 ≤ h25.size := Nat.le_trans Zs22 E25.1
  have KC29 : Keep h0 h25 [] := KC22.ext E25
  have V_b25 : Arv Z h25 b25 k25 .char (3 : Int32) [(.int (0 : Int32)), (.int (0 : Int32)), (.int (0 : Int32))] (.int (0 : Int32)) := (Arv.new A25 (by decide)).pad (pad_rep [] (.int (0 : Int32)) 3)
  have Sn30 := Safe.ext E25 CH21.1 (Safe.new (Nat.le_of_eq g25.symm))
  have pre31 : ∀ tgt, Steps p.tables e below (T25.setTop (mkF m 64 #[.val (.long q1), .second, .val (.long q2), .second, .val (.int p3), .val (.int p4), .val (.int p5), .val (.int l1), .val (.ref b3), .val (.ref b25), .unset, .unset, .unset, .unset, .unset, .unset, .unset, .unset, .unset, .unset] [(.int (0 : Int32)), (.ref b3), (.int (2 : Int32)), (.int p5), (.int (0 : Int32)), (.ref b25)])) tgt → Steps p.tables e below (s₁.setTop (entryFrame m #[(.long q1), (.long q2), (.int p3), (.int p4), (.int p5)] maxLocals)) tgt := by
    intro tgt kk
    refine pre24 tgt ?_
    refine st25 _ ?_
    show Steps p.tables e below (T25.setTop (mkF m 53 #[.val (.long q1), .second, .val (.long q2), .second, .val (.int p3), .val (.int p4), .val (.int p5), .val (.int l1), .val (.ref b3), .unset, .unset, .unset, .unset, .unset, .unset, .unset, .unset, .unset, .unset, .unset] [(.ref b25)])) _
    refine XS.astore X25.here hx rfl (hb hby at_53) rfl rfl (l' := #[.val (.long q1), .second, .val (.long q2), .second, .val (.int p3), .val (.int p4), .val (.int p5), .val (.int l1), .val (.ref b3), .val (.ref b25), .unset, .unset, .unset, .unset, .unset, .unset, .unset, .unset, .unset, .unset]) rfl ?_
    show Steps p.tables e below (T25.setTop (mkF m 55 #[.val (.long q1), .second, .val (.long q2), .second, .val (.int p3), .val (.int p4), .val (.int p5), .val (.int l1), .val (.ref b3), .val (.ref b25), .unset, .unset, .unset, .unset, .unset, .unset, .unset, .unset, .unset, .unset] [])) _
    refine XS.aload X25.here hx rfl (hb hby at_55) rfl rfl ?_
    show Steps p.tables e below (T25.setTop (mkF m 57 #[.val (.long q1), .second, .val (.long q2), .second, .val (.int p3), .val (.int p4), .val (.int p5), .val (.int l1), .val (.ref b3), .val (.ref b25), .unset, .unset, .unset, .unset, .unset, .unset, .unset, .unset, .unset, .unset] [(.ref b25)])) _
    refine XS.iconst X25.here hx rfl (hb hby at_57) ?_
    show Steps p.tables e below (T25.setTop (mkF m 58 #[.val (.long q1), .second, .val (.long q2), .second, .val (.int p3), .val (.int p4), .val (.int p5), .val (.int l1), .val (.ref b3), .val (.ref b25), .unset, .unset, .unset, .unset, .unset, .unset, .unset, .unset, .unset, .unset] [(.int (0 : Int32)), (.ref b25)])) _
    refine XS.iload X25.here hx rfl (hb hby at_58) rfl ?_
    show Steps p.tables e below (T25.setTop (mkF m 60 #[.val (.long q1), .second, .val (.long q2), .second, .val (.int p3), .val (.int p4), .val (.int p5), .val (.int l1), .val (.ref b3), .val (.ref b25), .unset, .unset, .unset, .unset, .unset, .unset, .unset, .unset, .unset, .unset] [(.int p5), (.int (0 : Int32)), (.ref b25)])) _
    refine XS.iconst X25.here hx rfl (hb hby at_60) ?_
    show Steps p.tables e below (T25.setTop (mkF m 61 #[.val (.long q1), .second, .val (.long q2), .second, .val (.int p3), .val (.int p4), .val (.int p5), .val (.int l1), .val (.ref b3), .val (.ref b25), .unset, .unset, .unset, .unset, .unset, .unset, .unset, .unset, .unset, .unset] [(.int (2 : Int32)), (.int p5), (.int (0 : Int32)), (.ref b25)])) _
    refine XS.aload X25.here hx rfl (hb hby at_61) rfl rfl ?_
    show Steps p.tables e below (T25.setTop (mkF m 63 #[.val (.long q1), .second, .val (.long q2), .second, .val (.int p3), .val (.int p4), .val (.int p5), .val (.int l1), .val (.ref b3), .val (.ref b25), .unset, .unset, .unset, .unset, .unset, .unset, .unset, .unset, .unset, .unset] [(.ref b3), (.int (2 : Int32)), (.int p5), (.int (0 : Int32)), (.ref b25)])) _
    refine XS.iconst X25.here hx rfl (hb hby at_63) ?_
    show Steps p.tables e below (T25.setTop (mkF m 64 #[.val (.long q1), .second, .val (.long q2), .second, .val (.int p3), .val (.int p4), .val (.int p5), .val (.int l1), .val (.ref b3), .val (.ref b25), .unset, .unset, .unset, .unset, .unset, .unset, .unset, .unset, .unset, .unset] [(.int (0 : Int32)), (.ref b3), (.int (2 : Int32)), (.int p5), (.int (0 : Int32)), (.ref b25)])) _
    exact kk
  obtain ⟨cl32, Ar32, aq32, aS32, aN32, aH32, aG32⟩ := id V_b3
  have hin33 : ¬ ((0 : Int32) < 0 ∨ cl32.slots.size ≤ ((0 : Int32)).toNatClampNeg) := inb_of aS32 ⟨by decide, by decide⟩
  have hat33 : cl32.slots[((0 : Int32)).toNatClampNeg]? = some (.int x0) := Has.at aH32 hin33 rfl
  have pre34 : ∀ tgt, Steps p.tables e below (T25.setTop (mkF m 67 #[.val (.long q1), .second, .val (.long q2), .second, .val (.int p3), .val (.int p4), .val (.int p5), .val (.int l1), .val (.ref b3), .val (.ref b25), .unset, .unset, .unset, .unset, .unset, .unset, .unset, .unset, .unset, .unset] [(.int (0 : Int32)), (.long q2), (.int x0), (.int (2 : Int32)), (.int p5), (.int (0 : Int32)), (.ref b25)])) tgt → Steps p.tables e below (s₁.setTop (entryFrame m #[(.long q1), (.long q2), (.int p3), (.int p4), (.int p5)] maxLocals)) tgt := by
    intro tgt kk
    refine pre31 tgt ?_
    refine X25.caload hx (j := (0 : Int32)) (v := (.int x0)) (by rw [e25]; exact Ar32.1) (State.isArrayOf_alike hZ.alike Ar32.2.1) Ar32.2.2 hin33 hat33 (g := (mkF m 64 #[.val (.long q1), .second, .val (.long q2), .second, .val (.int p3), .val (.int p4), .val (.int p5), .val (.int l1), .val (.ref b3), .val (.ref b25), .unset, .unset, .unset, .unset, .unset, .unset, .unset, .unset, .unset, .unset] [(.int (0 : Int32)), (.ref b3), (.int (2 : Int32)), (.int p5), (.int (0 : Int32)), (.ref b25)])) rfl rfl (hb hby at_64) _ ?_
    show Steps p.tables e below (T25.setTop (mkF m 65 #[.val (.long q1), .second, .val (.long q2), .second, .val (.int p3), .val (.int p4), .val (.int p5), .val (.int l1), .val (.ref b3), .val (.ref b25), .unset, .unset, .unset, .unset, .unset, .unset, .unset, .unset, .unset, .unset] [(.int x0), (.int (2 : Int32)), (.int p5), (.int (0 : Int32)), (.ref b25)])) _
    refine XS.lloadN X25.here hx rfl (hb hby at_65) rfl ?_
    show Steps p.tables e below (T25.setTop (mkF m 66 #[.val (.long q1), .second, .val (.long q2), .second, .val (.int p3), .val (.int p4), .val (.int p5), .val (.int l1), .val (.ref b3), .val (.ref b25), .unset, .unset, .unset, .unset, .unset, .unset, .unset, .unset, .unset, .unset] [(.long q2), (.int x0), (.int (2 : Int32)), (.int p5), (.int (0 : Int32)), (.ref b25)])) _
    refine XS.iconst X25.here hx rfl (hb hby at_66) ?_
    show Steps p.tables e below (T25.setTop (mkF m 67 #[.val (.long q1), .second, .val (.long q2), .second, .val (.int p3), .val (.int p4), .val (.int p5), .val (.int l1), .val (.ref b3), .val (.ref b25), .unset, .unset, .unset, .unset, .unset, .unset, .unset, .unset, .unset, .unset] [(.int (0 : Int32)), (.long q2), (.int x0), (.int (2 : Int32)), (.int p5), (.int (0 : Int32)), (.ref b25)])) _
    exact kk
  obtain ⟨_, _, ⟨T35, L35, k35, n35⟩, -, X35, ⟨Lc35, hQ35, l35, y35, z35⟩, st35⟩ := Jvm.LawKit.callS X25 hx (y := (⟨"com/example/postie/postie/config/ListenEqualsPinLaw", "pick", "(IICJI)C"⟩ : MethodName)) hown (mvT hZ (hw _ (List.mem_of_getElem? (i := 2) rfl))) (mvT hZ (hw _ (List.mem_of_getElem? (i := 3) rfl))) (mvT hZ (hw _ (List.mem_of_getElem? (i := 4) rfl))) (mvT hZ (hw _ (List.mem_of_getElem? (i := 5) rfl))) (by decide) (backOf (W := 2) (rmPk l Z a0 hw [] (p5) ((2 : Int32)) (x0) (q2) ((0 : Int32)) h25 n0 Zs29) hZ (hw _ (List.mem_of_getElem? (i := 5) rfl)) (hw _ (List.mem_of_getElem? (i := 4) rfl)) (by decide) (by decide)) (g := (mkF m 67 #[.val (.long q1), .second, .val (.long q2), .second, .val (.int p3), .val (.int p4), .val (.int p5), .val (.int l1), .val (.ref b3), .val (.ref b25), .unset, .unset, .unset, .unset, .unset, .unset, .unset, .unset, .unset, .unset] [(.int (0 : Int32)), (.long q2), (.int x0), (.int (2 : Int32)), (.int p5), (.int (0 : Int32)), (.ref b25)])) rfl (by rw [hml]; rfl) (argsL := [(.int p5), (.int (2 : Int32)), (.int x0), (.long q2), (.int (0 : Int32))]) (rest := [(.int (0 : Int32)), (.ref b25)]) (lenOf pd__IICJI_C rfl) rfl (by show 2 * 0 + _ ≤ _; exact Nat.le_of_eq rfl) (hb hby at_67) (fun _ _ => ⟨rfl, e25, (by decide : 2 + 0 ≤ _), (by decide : 6 + 0 ≤ _)⟩)
  dsimp only [Pt.U, Pt.locs, Pt.cells, Pt.slots] at X35 l35 y35 z35 st35 hQ35
  subst l35 y35 z35
  obtain ⟨rfl, N35q, hh35⟩ := hQ35
  have N35 := Fr.app N20 N35q
  have pre36 : ∀ tgt, Steps p.tables e below (T35.setTop (mkF m 70 #[.val (.long q1), .second, .val (.long q2), .second, .val (.int p3), .val (.int p4), .val (.int p5), .val (.int l1), .val (.ref b3), .val (.ref b25), .unset, .unset, .unset, .unset, .unset, .unset, .unset, .unset, .unset, .unset] [(.int (own_pk (p5) ((2 : Int32)) (x0) (q2) ((0 : Int32)))), (.int (0 : Int32)), (.ref b25)])) tgt → Steps p.tables e below (s₁.setTop (entryFrame m #[(.long q1), (.long q2), (.int p3), (.int p4), (.int p5)] maxLocals)) tgt := by
    intro tgt kk
    refine pre34 tgt ?_
    refine st35 _ ?_
    show Steps p.tables e below (T35.setTop (mkF m 70 #[.val (.long q1), .second, .val (.long q2), .second, .val (.int p3), .val (.int p4), .val (.int p5), .val (.int l1), .val (.ref b3), .val (.ref b25), .unset, .unset, .unset, .unset, .unset, .unset, .unset, .unset, .unset, .unset] [(.int (own_pk (p5) ((2 : Int32)) (x0) (q2) ((0 : Int32)))), (.int (0 : Int32)), (.ref b25)])) _
    exact kk
  obtain ⟨cl37, Ar37, aq37, aS37, aN37, aH37, aG37⟩ := id V_b25
  have hin38 : ¬ ((0 : Int32) < 0 ∨ cl37.slots.size ≤ ((0 : Int32)).toNatClampNeg) := inb_of aS37 ⟨by decide, by decide⟩
  obtain ⟨T38, h38, X38, e38, W38, st38⟩ := stC X35 hx hZ hh35 Ar37 (j := (0 : Int32)) hin38 (g := (mkF m 70 #[.val (.long q1), .second, .val (.long q2), .second, .val (.int p3), .val (.int p4), .val (.int p5), .val (.int l1), .val (.ref b3), .val (.ref b25), .unset, .unset, .unset, .unset, .unset, .unset, .unset, .unset, .unset, .unset] [(.int (own_pk (p5) ((2 : Int32)) (x0) (q2) ((0 : Int32)))), (.int (0 : Int32)), (.ref b25)])) rfl rfl (hb hby at_70)
  have N38 := Fr.snoc X38 N35 gn27
  have Vq38 : Arv Z h38 b25 k25 .char (3 : Int32) [(.int (nar .char (own_pk (p5) ((2 : Int32)) (x0) (q2) ((0 : Int32))))), (.int (0 : Int32)), (.int (0 : Int32))] (.int (0 : Int32)) := Arv.set Ar37 aq37 aS37 aN37 aH37 aG37 (fits_nar_char _) W38 0 rfl (Nat.le_of_ble_eq_true rfl)
  have ltS39_0 := V_b3.lt
  have ltS39_1 := V_b25.lt
  have CA39 : CHr Z own_EL s.vm h25 s.vm h38 := CHr.wr W38 Sn30 CH28.1
  have CH39 : CHr Z own_EL s.vm h0 s.vm h38 := CH28.trans CA39
  have Sf39_ltS39_0 := CA39.safe ltS39_0 Sf28_ltS28_0
  have Sf39_ltS39_1 := CA39.safe ltS39_1 Sn30
  have S_CS : Sta Z h38 "java/lang/String" "COMPACT_STRINGS" "Z" (.int z0) := S_CS.wr W38
  have V_b3 : Arv Z h38 b3 k3 .char (3 : Int32) [(.int x0), (.int x1), (.int x2)] (.int (0 : Int32)) := V_b3.other W38 ne26
  have Zs40 : n0 ≤ h38.size := Nat.le_trans Zs29 (Keep.of_wr W38).1
  have KC40 : Keep h0 h38 [] := KC29.wr W38 (Or.inr sz27)
  have V_b25 := Vq38
  have pre41 : ∀ tgt, Steps p.tables e below (T38.setTop (mkF m 80 #[.val (.long q1), .second, .val (.long q2), .second, .val (.int p3), .val (.int p4), .val (.int p5), .val (.int l1), .val (.ref b3), .val (.ref b25), .unset, .unset, .unset, .unset, .unset, .unset, .unset, .unset, .unset, .unset] [(.int (1 : Int32)), (.ref b3), (.int (3 : Int32)), (.int p5), (.int (1 : Int32)), (.ref b25)])) tgt → Steps p.tables e below (s₁.setTop (entryFrame m #[(.long q1), (.long q2), (.int p3), (.int p4), (.int p5)] maxLocals)) tgt := by
    intro tgt kk
    refine pre36 tgt ?_
    refine st38 _ ?_
    show Steps p.tables e below (T38.setTop (mkF m 71 #[.val (.long q1), .second, .val (.long q2), .second, .val (.int p3), .val (.int p4), .val (.int p5), .val (.int l1), .val (.ref b3), .val (.ref b25), .unset, .unset, .unset, .unset, .unset, .unset, .unset, .unset, .unset, .unset] [])) _
    refine XS.aload X38.here hx rfl (hb hby at_71) rfl rfl ?_
    show Steps p.tables e below (T38.setTop (mkF m 73 #[.val (.long q1), .second, .val (.long q2), .second, .val (.int p3), .val (.int p4), .val (.int p5), .val (.int l1), .val (.ref b3), .val (.ref b25), .unset, .unset, .unset, .unset, .unset, .unset, .unset, .unset, .unset, .unset] [(.ref b25)])) _
    refine XS.iconst X38.here hx rfl (hb hby at_73) ?_
    show Steps p.tables e below (T38.setTop (mkF m 74 #[.val (.long q1), .second, .val (.long q2), .second, .val (.int p3), .val (.int p4), .val (.int p5), .val (.int l1), .val (.ref b3), .val (.ref b25), .unset, .unset, .unset, .unset, .unset, .unset, .unset, .unset, .unset, .unset] [(.int (1 : Int32)), (.ref b25)])) _
    refine XS.iload X38.here hx rfl (hb hby at_74) rfl ?_
    show Steps p.tables e below (T38.setTop (mkF m 76 #[.val (.long q1), .second, .val (.long q2), .second, .val (.int p3), .val (.int p4), .val (.int p5), .val (.int l1), .val (.ref b3), .val (.ref b25), .unset, .unset, .unset, .unset, .unset, .unset, .unset, .unset, .unset, .unset] [(.int p5), (.int (1 : Int32)), (.ref b25)])) _
    refine XS.iconst X38.here hx rfl (hb hby at_76) ?_
    show Steps p.tables e below (T38.setTop (mkF m 77 #[.val (.long q1), .second, .val (.long q2), .second, .val (.int p3), .val (.int p4), .val (.int p5), .val (.int l1), .val (.ref b3), .val (.ref b25), .unset, .unset, .unset, .unset, .unset, .unset, .unset, .unset, .unset, .unset] [(.int (3 : Int32)), (.int p5), (.int (1 : Int32)), (.ref b25)])) _
    refine XS.aload X38.here hx rfl (hb hby at_77) rfl rfl ?_
    show Steps p.tables e below (T38.setTop (mkF m 79 #[.val (.long q1), .second, .val (.long q2), .second, .val (.int p3), .val (.int p4), .val (.int p5), .val (.int l1), .val (.ref b3), .val (.ref b25), .unset, .unset, .unset, .unset, .unset, .unset, .unset, .unset, .unset, .unset] [(.ref b3), (.int (3 : Int32)), (.int p5), (.int (1 : Int32)), (.ref b25)])) _
    refine XS.iconst X38.here hx rfl (hb hby at_79) ?_
    show Steps p.tables e below (T38.setTop (mkF m 80 #[.val (.long q1), .second, .val (.long q2), .second, .val (.int p3), .val (.int p4), .val (.int p5), .val (.int l1), .val (.ref b3), .val (.ref b25), .unset, .unset, .unset, .unset, .unset, .unset, .unset, .unset, .unset, .unset] [(.int (1 : Int32)), (.ref b3), (.int (3 : Int32)), (.int p5), (.int (1 : Int32)), (.ref b25)])) _
    exact kk
  obtain ⟨cl42, Ar42, aq42, aS42, aN42, aH42, aG42⟩ := id V_b3
  have hin43 : ¬ ((1 : Int32) < 0 ∨ cl42.slots.size ≤ ((1 : Int32)).toNatClampNeg) := inb_of aS42 ⟨by decide, by decide⟩
  have hat43 : cl42.slots[((1 : Int32)).toNatClampNeg]? = some (.int x1) := Has.at aH42 hin43 rfl
  have pre44 : ∀ tgt, Steps p.tables e below (T38.setTop (mkF m 84 #[.val (.long q1), .second, .val (.long q2), .second, .val (.int p3), .val (.int p4), .val (.int p5), .val (.int l1), .val (.ref b3), .val (.ref b25), .unset, .unset, .unset, .unset, .unset, .unset, .unset, .unset, .unset, .unset] [(.int (8 : Int32)), (.long q2), (.int x1), (.int (3 : Int32)), (.int p5), (.int (1 : Int32)), (.ref b25)])) tgt → Steps p.tables e below (s₁.setTop (entryFrame m #[(.long q1), (.long q2), (.int p3), (.int p4), (.int p5)] maxLocals)) tgt := by
    intro tgt kk
    refine pre41 tgt ?_
    refine X38.caload hx (j := (1 : Int32)) (v := (.int x1)) (by rw [e38]; exact Ar42.1) (State.isArrayOf_alike hZ.alike Ar42.2.1) Ar42.2.2 hin43 hat43 (g := (mkF m 80 #[.val (.long q1), .second, .val (.long q2), .second, .val (.int p3), .val (.int p4), .val (.int p5), .val (.int l1), .val (.ref b3), .val (.ref b25), .unset, .unset, .unset, .unset, .unset, .unset, .unset, .unset, .unset, .unset] [(.int (1 : Int32)), (.ref b3), (.int (3 : Int32)), (.int p5), (.int (1 : Int32)), (.ref b25)])) rfl rfl (hb hby at_80) _ ?_
    show Steps p.tables e below (T38.setTop (mkF m 81 #[.val (.long q1), .second, .val (.long q2), .second, .val (.int p3), .val (.int p4), .val (.int p5), .val (.int l1), .val (.ref b3), .val (.ref b25), .unset, .unset, .unset, .unset, .unset, .unset, .unset, .unset, .unset, .unset] [(.int x1), (.int (3 : Int32)), (.int p5), (.int (1 : Int32)), (.ref b25)])) _
    refine XS.lloadN X38.here hx rfl (hb hby at_81) rfl ?_
    show Steps p.tables e below (T38.setTop (mkF m 82 #[.val (.long q1), .second, .val (.long q2), .second, .val (.int p3), .val (.int p4), .val (.int p5), .val (.int l1), .val (.ref b3), .val (.ref b25), .unset, .unset, .unset, .unset, .unset, .unset, .unset, .unset, .unset, .unset] [(.long q2), (.int x1), (.int (3 : Int32)), (.int p5), (.int (1 : Int32)), (.ref b25)])) _
    refine XS.bipush X38.here hx rfl (hb hby at_82) ?_
    show Steps p.tables e below (T38.setTop (mkF m 84 #[.val (.long q1), .second, .val (.long q2), .second, .val (.int p3), .val (.int p4), .val (.int p5), .val (.int l1), .val (.ref b3), .val (.ref b25), .unset, .unset, .unset, .unset, .unset, .unset, .unset, .unset, .unset, .unset] [(.int (8 : Int32)), (.long q2), (.int x1), (.int (3 : Int32)), (.int p5), (.int (1 : Int32)), (.ref b25)])) _
    exact kk
  obtain ⟨_, _, ⟨T45, L45, k45, n45⟩, -, X45, ⟨Lc45, hQ45, l45, y45, z45⟩, st45⟩ := Jvm.LawKit.callS X38 hx (y := (⟨"com/example/postie/postie/config/ListenEqualsPinLaw", "pick", "(IICJI)C"⟩ : MethodName)) hown (mvT hZ (hw _ (List.mem_of_getElem? (i := 2) rfl))) (mvT hZ (hw _ (List.mem_of_getElem? (i := 3) rfl))) (mvT hZ (hw _ (List.mem_of_getElem? (i := 4) rfl))) (mvT hZ (hw _ (List.mem_of_getElem? (i := 5) rfl))) (by decide) (backOf (W := 2) (rmPk l Z a0 hw [] (p5) ((3 : Int32)) (x1) (q2) ((8 : Int32)) h38 n0 Zs40) hZ (hw _ (List.mem_of_getElem? (i := 5) rfl)) (hw _ (List.mem_of_getElem? (i := 4) rfl)) (by decide) (by decide)) (g := (mkF m 84 #[.val (.long q1), .second, .val (.long q2), .second, .val (.int p3), .val (.int p4), .val (.int p5), .val (.int l1), .val (.ref b3), .val (.ref b25), .unset, .unset, .unset, .unset, .unset, .unset, .unset, .unset, .unset, .unset] [(.int (8 : Int32)), (.long q2), (.int x1), (.int (3 : Int32)), (.int p5), (.int (1 : Int32)), (.ref b25)])) rfl (by rw [hml]; rfl) (argsL := [(.int p5), (.int (3 : Int32)), (.int x1), (.long q2), (.int (8 : Int32))]) (rest := [(.int (1 : Int32)), (.ref b25)]) (lenOf pd__IICJI_C rfl) rfl (by show 2 * 0 + _ ≤ _; exact Nat.le_of_eq rfl) (hb hby at_84) (fun _ _ => ⟨rfl, e38, (by decide : 2 + 0 ≤ _), (by decide : 6 + 0 ≤ _)⟩)
  dsimp only [Pt.U, Pt.locs, Pt.cells, Pt.slots] at X45 l45 y45 z45 st45 hQ45
  subst l45 y45 z45
  obtain ⟨rfl, N45q, hh45⟩ := hQ45
  have N45 := Fr.app N38 N45q
  have pre46 : ∀ tgt, Steps p.tables e below (T45.setTop (mkF m 87 #[.val (.long q1), .second, .val (.long q2), .second, .val (.int p3), .val (.int p4), .val (.int p5), .val (.int l1), .val (.ref b3), .val (.ref b25), .unset, .unset, .unset, .unset, .unset, .unset, .unset, .unset, .unset, .unset] [(.int (own_pk (p5) ((3 : Int32)) (x1) (q2) ((8 : Int32)))), (.int (1 : Int32)), (.ref b25)])) tgt → Steps p.tables e below (s₁.setTop (entryFrame m #[(.long q1), (.long q2), (.int p3), (.int p4), (.int p5)] maxLocals)) tgt := by
    intro tgt kk
    refine pre44 tgt ?_
    refine st45 _ ?_
    show Steps p.tables e below (T45.setTop (mkF m 87 #[.val (.long q1), .second, .val (.long q2), .second, .val (.int p3), .val (.int p4), .val (.int p5), .val (.int l1), .val (.ref b3), .val (.ref b25), .unset, .unset, .unset, .unset, .unset, .unset, .unset, .unset, .unset, .unset] [(.int (own_pk (p5) ((3 : Int32)) (x1) (q2) ((8 : Int32)))), (.int (1 : Int32)), (.ref b25)])) _
    exact kk
  obtain ⟨cl47, Ar47, aq47, aS47, aN47, aH47, aG47⟩ := id V_b25
  have hin48 : ¬ ((1 : Int32) < 0 ∨ cl47.slots.size ≤ ((1 : Int32)).toNatClampNeg) := inb_of aS47 ⟨by decide, by decide⟩
  obtain ⟨T48, h48, X48, e48, W48, st48⟩ := stC X45 hx hZ hh45 Ar47 (j := (1 : Int32)) hin48 (g := (mkF m 87 #[.val (.long q1), .second, .val (.long q2), .second, .val (.int p3), .val (.int p4), .val (.int p5), .val (.int l1), .val (.ref b3), .val (.ref b25), .unset, .unset, .unset, .unset, .unset, .unset, .unset, .unset, .unset, .unset] [(.int (own_pk (p5) ((3 : Int32)) (x1) (q2) ((8 : Int32)))), (.int (1 : Int32)), (.ref b25)])) rfl rfl (hb hby at_87)
  have N48 := Fr.snoc X48 N45 gn27
  have Vq48 : Arv Z h48 b25 k25 .char (3 : Int32) [(.int (nar .char (own_pk (p5) ((2 : Int32)) (x0) (q2) ((0 : Int32))))), (.int (nar .char (own_pk (p5) ((3 : Int32)) (x1) (q2) ((8 : Int32))))), (.int (0 : Int32))] (.int (0 : Int32)) := Arv.set Ar47 aq47 aS47 aN47 aH47 aG47 (fits_nar_char _) W48 1 rfl (Nat.le_of_ble_eq_true rfl)
  have ltS49_0 := V_b3.lt
  have ltS49_1 := V_b25.lt
  have CA49 : CHr Z own_EL s.vm h38 s.vm h48 := CHr.wr W48 Sf39_ltS39_1 CH39.1
  have CH49 : CHr Z own_EL s.vm h0 s.vm h48 := CH39.trans CA49
  have Sf49_ltS49_0 := CA49.safe ltS49_0 Sf39_ltS39_0
  have Sf49_ltS49_1 := CA49.safe ltS49_1 Sf39_ltS39_1
  have S_CS : Sta Z h48 "java/lang/String" "COMPACT_STRINGS" "Z" (.int z0) := S_CS.wr W48
  have V_b3 : Arv Z h48 b3 k3 .char (3 : Int32) [(.int x0), (.int x1), (.int x2)] (.int (0 : Int32)) := V_b3.other W48 ne26
  have Zs50 : n0 ≤ h48.size := Nat.le_trans Zs40 (Keep.of_wr W48).1
  have KC50 : Keep h0 h48 [] := KC40.wr W48 (Or.inr sz27)
  have V_b25 := Vq48
  have pre51 : ∀ tgt, Steps p.tables e below (T48.setTop (mkF m 97 #[.val (.long q1), .second, .val (.long q2), .second, .val (.int p3), .val (.int p4), .val (.int p5), .val (.int l1), .val (.ref b3), .val (.ref b25), .unset, .unset, .unset, .unset, .unset, .unset, .unset, .unset, .unset, .unset] [(.int (2 : Int32)), (.ref b3), (.int (4 : Int32)), (.int p5), (.int (2 : Int32)), (.ref b25)])) tgt → Steps p.tables e below (s₁.setTop (entryFrame m #[(.long q1), (.long q2), (.int p3), (.int p4), (.int p5)] maxLocals)) tgt := by
    intro tgt kk
    refine pre46 tgt ?_
    refine st48 _ ?_
    show Steps p.tables e below (T48.setTop (mkF m 88 #[.val (.long q1), .second, .val (.long q2), .second, .val (.int p3), .val (.int p4), .val (.int p5), .val (.int l1), .val (.ref b3), .val (.ref b25), .unset, .unset, .unset, .unset, .unset, .unset, .unset, .unset, .unset, .unset] [])) _
    refine XS.aload X48.here hx rfl (hb hby at_88) rfl rfl ?_
    show Steps p.tables e below (T48.setTop (mkF m 90 #[.val (.long q1), .second, .val (.long q2), .second, .val (.int p3), .val (.int p4), .val (.int p5), .val (.int l1), .val (.ref b3), .val (.ref b25), .unset, .unset, .unset, .unset, .unset, .unset, .unset, .unset, .unset, .unset] [(.ref b25)])) _
    refine XS.iconst X48.here hx rfl (hb hby at_90) ?_
    show Steps p.tables e below (T48.setTop (mkF m 91 #[.val (.long q1), .second, .val (.long q2), .second, .val (.int p3), .val (.int p4), .val (.int p5), .val (.int l1), .val (.ref b3), .val (.ref b25), .unset, .unset, .unset, .unset, .unset, .unset, .unset, .unset, .unset, .unset] [(.int (2 : Int32)), (.ref b25)])) _
    refine XS.iload X48.here hx rfl (hb hby at_91) rfl ?_
    show Steps p.tables e below (T48.setTop (mkF m 93 #[.val (.long q1), .second, .val (.long q2), .second, .val (.int p3), .val (.int p4), .val (.int p5), .val (.int l1), .val (.ref b3), .val (.ref b25), .unset, .unset, .unset, .unset, .unset, .unset, .unset, .unset, .unset, .unset] [(.int p5), (.int (2 : Int32)), (.ref b25)])) _
    refine XS.iconst X48.here hx rfl (hb hby at_93) ?_
    show Steps p.tables e below (T48.setTop (mkF m 94 #[.val (.long q1), .second, .val (.long q2), .second, .val (.int p3), .val (.int p4), .val (.int p5), .val (.int l1), .val (.ref b3), .val (.ref b25), .unset, .unset, .unset, .unset, .unset, .unset, .unset, .unset, .unset, .unset] [(.int (4 : Int32)), (.int p5), (.int (2 : Int32)), (.ref b25)])) _
    refine XS.aload X48.here hx rfl (hb hby at_94) rfl rfl ?_
    show Steps p.tables e below (T48.setTop (mkF m 96 #[.val (.long q1), .second, .val (.long q2), .second, .val (.int p3), .val (.int p4), .val (.int p5), .val (.int l1), .val (.ref b3), .val (.ref b25), .unset, .unset, .unset, .unset, .unset, .unset, .unset, .unset, .unset, .unset] [(.ref b3), (.int (4 : Int32)), (.int p5), (.int (2 : Int32)), (.ref b25)])) _
    refine XS.iconst X48.here hx rfl (hb hby at_96) ?_
    show Steps p.tables e below (T48.setTop (mkF m 97 #[.val (.long q1), .second, .val (.long q2), .second, .val (.int p3), .val (.int p4), .val (.int p5), .val (.int l1), .val (.ref b3), .val (.ref b25), .unset, .unset, .unset, .unset, .unset, .unset, .unset, .unset, .unset, .unset] [(.int (2 : Int32)), (.ref b3), (.int (4 : Int32)), (.int p5), (.int (2 : Int32)), (.ref b25)])) _
    exact kk
  obtain ⟨cl52, Ar52, aq52, aS52, aN52, aH52, aG52⟩ := id V_b3
  have hin53 : ¬ ((2 : Int32) < 0 ∨ cl52.slots.size ≤ ((2 : Int32)).toNatClampNeg) := inb_of aS52 ⟨by decide, by decide⟩
  have hat53 : cl52.slots[((2 : Int32)).toNatClampNeg]? = some (.int x2) := Has.at aH52 hin53 rfl
  have pre54 : ∀ tgt, Steps p.tables e below (T48.setTop (mkF m 101 #[.val (.long q1), .second, .val (.long q2), .second, .val (.int p3), .val (.int p4), .val (.int p5), .val (.int l1), .val (.ref b3), .val (.ref b25), .unset, .unset, .unset, .unset, .unset, .unset, .unset, .unset, .unset, .unset] [(.int (16 : Int32)), (.long q2), (.int x2), (.int (4 : Int32)), (.int p5), (.int (2 : Int32)), (.ref b25)])) tgt → Steps p.tables e below (s₁.setTop (entryFrame m #[(.long q1), (.long q2), (.int p3), (.int p4), (.int p5)] maxLocals)) tgt := by
    intro tgt kk
    refine pre51 tgt ?_
    refine X48.caload hx (j := (2 : Int32)) (v := (.int x2)) (by rw [e48]; exact Ar52.1) (State.isArrayOf_alike hZ.alike Ar52.2.1) Ar52.2.2 hin53 hat53 (g := (mkF m 97 #[.val (.long q1), .second, .val (.long q2), .second, .val (.int p3), .val (.int p4), .val (.int p5), .val (.int l1), .val (.ref b3), .val (.ref b25), .unset, .unset, .unset, .unset, .unset, .unset, .unset, .unset, .unset, .unset] [(.int (2 : Int32)), (.ref b3), (.int (4 : Int32)), (.int p5), (.int (2 : Int32)), (.ref b25)])) rfl rfl (hb hby at_97) _ ?_
    show Steps p.tables e below (T48.setTop (mkF m 98 #[.val (.long q1), .second, .val (.long q2), .second, .val (.int p3), .val (.int p4), .val (.int p5), .val (.int l1), .val (.ref b3), .val (.ref b25), .unset, .unset, .unset, .unset, .unset, .unset, .unset, .unset, .unset, .unset] [(.int x2), (.int (4 : Int32)), (.int p5), (.int (2 : Int32)), (.ref b25)])) _
    refine XS.lloadN X48.here hx rfl (hb hby at_98) rfl ?_
    show Steps p.tables e below (T48.setTop (mkF m 99 #[.val (.long q1), .second, .val (.long q2), .second, .val (.int p3), .val (.int p4), .val (.int p5), .val (.int l1), .val (.ref b3), .val (.ref b25), .unset, .unset, .unset, .unset, .unset, .unset, .unset, .unset, .unset, .unset] [(.long q2), (.int x2), (.int (4 : Int32)), (.int p5), (.int (2 : Int32)), (.ref b25)])) _
    refine XS.bipush X48.here hx rfl (hb hby at_99) ?_
    show Steps p.tables e below (T48.setTop (mkF m 101 #[.val (.long q1), .second, .val (.long q2), .second, .val (.int p3), .val (.int p4), .val (.int p5), .val (.int l1), .val (.ref b3), .val (.ref b25), .unset, .unset, .unset, .unset, .unset, .unset, .unset, .unset, .unset, .unset] [(.int (16 : Int32)), (.long q2), (.int x2), (.int (4 : Int32)), (.int p5), (.int (2 : Int32)), (.ref b25)])) _
    exact kk
  obtain ⟨_, _, ⟨T55, L55, k55, n55⟩, -, X55, ⟨Lc55, hQ55, l55, y55, z55⟩, st55⟩ := Jvm.LawKit.callS X48 hx (y := (⟨"com/example/postie/postie/config/ListenEqualsPinLaw", "pick", "(IICJI)C"⟩ : MethodName)) hown (mvT hZ (hw _ (List.mem_of_getElem? (i := 2) rfl))) (mvT hZ (hw _ (List.mem_of_getElem? (i := 3) rfl))) (mvT hZ (hw _ (List.mem_of_getElem? (i := 4) rfl))) (mvT hZ (hw _ (List.mem_of_getElem? (i := 5) rfl))) (by decide) (backOf (W := 2) (rmPk l Z a0 hw [] (p5) ((4 : Int32)) (x2) (q2) ((16 : Int32)) h48 n0 Zs50) hZ (hw _ (List.mem_of_getElem? (i := 5) rfl)) (hw _ (List.mem_of_getElem? (i := 4) rfl)) (by decide) (by decide)) (g := (mkF m 101 #[.val (.long q1), .second, .val (.long q2), .second, .val (.int p3), .val (.int p4), .val (.int p5), .val (.int l1), .val (.ref b3), .val (.ref b25), .unset, .unset, .unset, .unset, .unset, .unset, .unset, .unset, .unset, .unset] [(.int (16 : Int32)), (.long q2), (.int x2), (.int (4 : Int32)), (.int p5), (.int (2 : Int32)), (.ref b25)])) rfl (by rw [hml]; rfl) (argsL := [(.int p5), (.int (4 : Int32)), (.int x2), (.long q2), (.int (16 : Int32))]) (rest := [(.int (2 : Int32)), (.ref b25)]) (lenOf pd__IICJI_C rfl) rfl (by show 2 * 0 + _ ≤ _; exact Nat.le_of_eq rfl) (hb hby at_101) (fun _ _ => ⟨rfl, e48, (by decide : 2 + 0 ≤ _), (by decide : 6 + 0 ≤ _)⟩)
  dsimp only [Pt.U, Pt.locs, Pt.cells, Pt.slots] at X55 l55 y55 z55 st55 hQ55
  subst l55 y55 z55
  obtain ⟨rfl, N55q, hh55⟩ := hQ55
  have N55 := Fr.app N48 N55q
  have pre56 : ∀ tgt, Steps p.tables e below (T55.setTop (mkF m 104 #[.val (.long q1), .second, .val (.long q2), .second, .val (.int p3), .val (.int p4), .val (.int p5), .val (.int l1), .val (.ref b3), .val (.ref b25), .unset, .unset, .unset, .unset, .unset, .unset, .unset, .unset, .unset, .unset] [(.int (own_pk (p5) ((4 : Int32)) (x2) (q2) ((16 : Int32)))), (.int (2 : Int32)), (.ref b25)])) tgt → Steps p.tables e below (s₁.setTop (entryFrame m #[(.long q1), (.long q2), (.int p3), (.int p4), (.int p5)] maxLocals)) tgt := by
    intro tgt kk
    refine pre54 tgt ?_
    refine st55 _ ?_
    show Steps p.tables e below (T55.setTop (mkF m 104 #[.val (.long q1), .second, .val (.long q2), .second, .val (.int p3), .val (.int p4), .val (.int p5), .val (.int l1), .val (.ref b3), .val (.ref b25), .unset, .unset, .unset, .unset, .unset, .unset, .unset, .unset, .unset, .unset] [(.int (own_pk (p5) ((4 : Int32)) (x2) (q2) ((16 : Int32)))), (.int (2 : Int32)), (.ref b25)])) _
    exact kk
  obtain ⟨cl57, Ar57, aq57, aS57, aN57, aH57, aG57⟩ := id V_b25
  have hin58 : ¬ ((2 : Int32) < 0 ∨ cl57.slots.size ≤ ((2 : Int32)).toNatClampNeg) := inb_of aS57 ⟨by decide, by decide⟩
  obtain ⟨T58, h58, X58, e58, W58, st58⟩ := stC X55 hx hZ hh55 Ar57 (j := (2 : Int32)) hin58 (g := (mkF m 104 #[.val (.long q1), .second, .val (.long q2), .second, .val (.int p3), .val (.int p4), .val (.int p5), .val (.int l1), .val (.ref b3), .val (.ref b25), .unset, .unset, .unset, .unset, .unset, .unset, .unset, .unset, .unset, .unset] [(.int (own_pk (p5) ((4 : Int32)) (x2) (q2) ((16 : Int32)))), (.int (2 : Int32)), (.ref b25)])) rfl rfl (hb hby at_104)
  have N58 := Fr.snoc X58 N55 gn27
  have Vq58 : Arv Z h58 b25 k25 .char (3 : Int32) [(.int (nar .char (own_pk (p5) ((2 : Int32)) (x0) (q2) ((0 : Int32))))), (.int (nar .char (own_pk (p5) ((3 : Int32)) (x1) (q2) ((8 : Int32))))), (.int (nar .char (own_pk (p5) ((4 : Int32)) (x2) (q2) ((16 : Int32)))))] (.int (0 : Int32)) := Arv.set Ar57 aq57 aS57 aN57 aH57 aG57 (fits_nar_char _) W58 2 rfl (Nat.le_of_ble_eq_true rfl)
  have ltS59_0 := V_b3.lt
  have ltS59_1 := V_b25.lt
  have CA59 : CHr Z own_EL s.vm h48 s.vm h58 := CHr.wr W58 Sf49_ltS49_1 CH49.1
  have CH59 : CHr Z own_EL s.vm h0 s.vm h58 := CH49.trans CA59
  have Sf59_ltS59_0 := CA59.safe ltS59_0 Sf49_ltS49_0
  have Sf59_ltS59_1 := CA59.safe ltS59_1 Sf49_ltS49_1
  have S_CS : Sta Z h58 "java/lang/String" "COMPACT_STRINGS" "Z" (.int z0) := S_CS.wr W58
  have V_b3 : Arv Z h58 b3 k3 .char (3 : Int32) [(.int x0), (.int x1), (.int x2)] (.int (0 : Int32)) := V_b3.other W58 ne26
  have Zs60 : n0 ≤ h58.size := Nat.le_trans Zs50 (Keep.of_wr W58).1
  have KC60 : Keep h0 h58 [] := KC50.wr W58 (Or.inr sz27)
  have V_b25 := Vq58
  have pre61 : ∀ tgt, Steps p.tables e below (T58.setTop (mkF m 105 #[.val (.long q1), .second, .val (.long q2), .second, .val (.int p3), .val (.int p4), .val (.int p5), .val (.int l1), .val (.ref b3), .val (.ref b25), .unset, .unset, .unset, .unset, .unset, .unset, .unset, .unset, .unset, .unset] [])) tgt → Steps p.tables e below (s₁.setTop (entryFrame m #[(.long q1), (.long q2), (.int p3), (.int p4), (.int p5)] maxLocals)) tgt := by
    intro tgt kk
    refine pre56 tgt ?_
    refine st58 _ ?_
    show Steps p.tables e below (T58.setTop (mkF m 105 #[.val (.long q1), .second, .val (.long q2), .second, .val (.int p3), .val (.int p4), .val (.int p5), .val (.int l1), .val (.ref b3), .val (.ref b25), .unset, .unset, .unset, .unset, .unset, .unset, .unset, .unset, .unset, .unset] [])) _
    exact kk
  obtain ⟨y0, hy0e⟩ : ∃ z, z = (nar .char (own_pk (p5) ((2 : Int32)) (x0) (q2) ((0 : Int32)))) := ⟨_, rfl⟩
  have hpy0 : ¬ y0 < 0 ∧ ¬ (255 : Int32) < y0 := by rw [hy0e]; exact own_pk_p _ _ _ _ _ hpx0
  obtain ⟨y1, hy1e⟩ : ∃ z, z = (nar .char (own_pk (p5) ((3 : Int32)) (x1) (q2) ((8 : Int32)))) := ⟨_, rfl⟩
  have hpy1 : ¬ y1 < 0 ∧ ¬ (255 : Int32) < y1 := by rw [hy1e]; exact own_pk_p _ _ _ _ _ hpx1
  obtain ⟨y2, hy2e⟩ : ∃ z, z = (nar .char (own_pk (p5) ((4 : Int32)) (x2) (q2) ((16 : Int32)))) := ⟨_, rfl⟩
  have hpy2 : ¬ y2 < 0 ∧ ¬ (255 : Int32) < y2 := by rw [hy2e]; exact own_pk_p _ _ _ _ _ hpx2
  rw [← hy0e, ← hy1e, ← hy2e] at V_b25
  have pre62 : ∀ tgt, Steps p.tables e below (T58.setTop (mkF m 111 #[.val (.long q1), .second, .val (.long q2), .second, .val (.int p3), .val (.int p4), .val (.int p5), .val (.int l1), .val (.ref b3), .val (.ref b25), .unset, .unset, .unset, .unset, .unset, .unset, .unset, .unset, .unset, .unset] [(.int (((p5.toUInt32 >>> ((5 : Int32) &&& 31).toUInt32).toInt32) &&& (1 : Int32)))])) tgt → Steps p.tables e below (s₁.setTop (entryFrame m #[(.long q1), (.long q2), (.int p3), (.int p4), (.int p5)] maxLocals)) tgt := by
    intro tgt kk
    refine pre61 tgt ?_
    refine XS.iload X58.here hx rfl (hb hby at_105) rfl ?_
    show Steps p.tables e below (T58.setTop (mkF m 107 #[.val (.long q1), .second, .val (.long q2), .second, .val (.int p3), .val (.int p4), .val (.int p5), .val (.int l1), .val (.ref b3), .val (.ref b25), .unset, .unset, .unset, .unset, .unset, .unset, .unset, .unset, .unset, .unset] [(.int p5)])) _
    refine XS.iconst X58.here hx rfl (hb hby at_107) ?_
    show Steps p.tables e below (T58.setTop (mkF m 108 #[.val (.long q1), .second, .val (.long q2), .second, .val (.int p3), .val (.int p4), .val (.int p5), .val (.int l1), .val (.ref b3), .val (.ref b25), .unset, .unset, .unset, .unset, .unset, .unset, .unset, .unset, .unset, .unset] [(.int (5 : Int32)), (.int p5)])) _
    refine XS.iushr X58.here hx rfl (hb hby at_108) rfl ?_
    show Steps p.tables e below (T58.setTop (mkF m 109 #[.val (.long q1), .second, .val (.long q2), .second, .val (.int p3), .val (.int p4), .val (.int p5), .val (.int l1), .val (.ref b3), .val (.ref b25), .unset, .unset, .unset, .unset, .unset, .unset, .unset, .unset, .unset, .unset] [(.int ((p5.toUInt32 >>> ((5 : Int32) &&& 31).toUInt32).toInt32))])) _
    refine XS.iconst X58.here hx rfl (hb hby at_109) ?_
    show Steps p.tables e below (T58.setTop (mkF m 110 #[.val (.long q1), .second, .val (.long q2), .second, .val (.int p3), .val (.int p4), .val (.int p5), .val (.int l1), .val (.ref b3), .val (.ref b25), .unset, .unset, .unset, .unset, .unset, .unset, .unset, .unset, .unset, .unset] [(.int (1 : Int32)), (.int ((p5.toUInt32 >>> ((5 : Int32) &&& 31).toUInt32).toInt32))])) _
    refine XS.iand X58.here hx rfl (hb hby at_110) rfl ?_
    show Steps p.tables e below (T58.setTop (mkF m 111 #[.val (.long q1), .second, .val (.long q2), .second, .val (.int p3), .val (.int p4), .val (.int p5), .val (.int l1), .val (.ref b3), .val (.ref b25), .unset, .unset, .unset, .unset, .unset, .unset, .unset, .unset, .unset, .unset] [(.int (((p5.toUInt32 >>> ((5 : Int32) &&& 31).toUInt32).toInt32) &&& (1 : Int32)))])) _
    exact kk
  obtain ⟨T64, lo64, X64, N64, e64, pre64⟩ : ∃ (T' : State) (lo : List Loc), Stand p l e room_1 s m #[(.long q1), (.long q2), (.int p3), (.int p4), (.int p5)] below meth c T' lo 2 6 ∧ Fr n0 lo ∧ T'.heap = h58 ∧ ∀ tgt, Steps p.tables e below (T'.setTop (mkF m 126 #[.val (.long q1), .second, .val (.long q2), .second, .val (.int p3), .val (.int p4), .val (.int p5), .val (.int l1), .val (.ref b3), .val (.ref b25), .unset, .unset, .unset, .unset, .unset, .unset, .unset, .unset, .unset, .unset] [(.int (if (((p5.toUInt32 >>> ((5 : Int32) &&& 31).toUInt32).toInt32) &&& (1 : Int32)) = (0 : Int32) then (((p5.toUInt32 >>> ((6 : Int32) &&& 31).toUInt32).toInt32) &&& (3 : Int32)) else l1))])) tgt → Steps p.tables e below (s₁.setTop (entryFrame m #[(.long q1), (.long q2), (.int p3), (.int p4), (.int p5)] maxLocals)) tgt := by
    by_cases hc111_63 : (((p5.toUInt32 >>> ((5 : Int32) &&& 31).toUInt32).toInt32) &&& (1 : Int32)) = (0 : Int32)
    · skip
      refine ⟨T58, _, X58, N58, e58, fun tgt kk => ?_⟩
      have kq65 : ((.int (if (((p5.toUInt32 >>> ((5 : Int32) &&& 31).toUInt32).toInt32) &&& (1 : Int32)) = (0 : Int32) then (((p5.toUInt32 >>> ((6 : Int32) &&& 31).toUInt32).toInt32) &&& (3 : Int32)) else l1)) : Value) = (.int (((p5.toUInt32 >>> ((6 : Int32) &&& 31).toUInt32).toInt32) &&& (3 : Int32))) := (congrArg Value.int (if_pos hc111_63))
      rw [kq65] at kk
      refine pre62 tgt ?_
      refine XS.ifYes X58.here hx rfl (pc0 := 111) (pc' := 119) rfl (hb hby at_111) rfl (XT.i0_eq_t hc111_63) (by decide) (by decide) ?_
      show Steps p.tables e below (T58.setTop (mkF m 119 #[.val (.long q1), .second, .val (.long q2), .second, .val (.int p3), .val (.int p4), .val (.int p5), .val (.int l1), .val (.ref b3), .val (.ref b25), .unset, .unset, .unset, .unset, .unset, .unset, .unset, .unset, .unset, .unset] [])) _
      refine XS.iload X58.here hx rfl (hb hby at_119) rfl ?_
      show Steps p.tables e below (T58.setTop (mkF m 121 #[.val (.long q1), .second, .val (.long q2), .second, .val (.int p3), .val (.int p4), .val (.int p5), .val (.int l1), .val (.ref b3), .val (.ref b25), .unset, .unset, .unset, .unset, .unset, .unset, .unset, .unset, .unset, .unset] [(.int p5)])) _
      refine XS.bipush X58.here hx rfl (hb hby at_121) ?_
      show Steps p.tables e below (T58.setTop (mkF m 123 #[.val (.long q1), .second, .val (.long q2), .second, .val (.int p3), .val (.int p4), .val (.int p5), .val (.int l1), .val (.ref b3), .val (.ref b25), .unset, .unset, .unset, .unset, .unset, .unset, .unset, .unset, .unset, .unset] [(.int (6 : Int32)), (.int p5)])) _
      refine XS.iushr X58.here hx rfl (hb hby at_123) rfl ?_
      show Steps p.tables e below (T58.setTop (mkF m 124 #[.val (.long q1), .second, .val (.long q2), .second, .val (.int p3), .val (.int p4), .val (.int p5), .val (.int l1), .val (.ref b3), .val (.ref b25), .unset, .unset, .unset, .unset, .unset, .unset, .unset, .unset, .unset, .unset] [(.int ((p5.toUInt32 >>> ((6 : Int32) &&& 31).toUInt32).toInt32))])) _
      refine XS.iconst X58.here hx rfl (hb hby at_124) ?_
      show Steps p.tables e below (T58.setTop (mkF m 125 #[.val (.long q1), .second, .val (.long q2), .second, .val (.int p3), .val (.int p4), .val (.int p5), .val (.int l1), .val (.ref b3), .val (.ref b25), .unset, .unset, .unset, .unset, .unset, .unset, .unset, .unset, .unset, .unset] [(.int (3 : Int32)), (.int ((p5.toUInt32 >>> ((6 : Int32) &&& 31).toUInt32).toInt32))])) _
      refine XS.iand X58.here hx rfl (hb hby at_125) rfl ?_
      show Steps p.tables e below (T58.setTop (mkF m 126 #[.val (.long q1), .second, .val (.long q2), .second, .val (.int p3), .val (.int p4), .val (.int p5), .val (.int l1), .val (.ref b3), .val (.ref b25), .unset, .unset, .unset, .unset, .unset, .unset, .unset, .unset, .unset, .unset] [(.int (((p5.toUInt32 >>> ((6 : Int32) &&& 31).toUInt32).toInt32) &&& (3 : Int32)))])) _
      exact kk
    · skip
      refine ⟨T58, _, X58, N58, e58, fun tgt kk => ?_⟩
      have kq66 : ((.int (if (((p5.toUInt32 >>> ((5 : Int32) &&& 31).toUInt32).toInt32) &&& (1 : Int32)) = (0 : Int32) then (((p5.toUInt32 >>> ((6 : Int32) &&& 31).toUInt32).toInt32) &&& (3 : Int32)) else l1)) : Value) = (.int l1) := (congrArg Value.int (if_neg hc111_63))
      rw [kq66] at kk
      refine pre62 tgt ?_
      refine XS.ifNo X58.here hx rfl (hb hby at_111) rfl (XT.i0_eq_f hc111_63) ?_
      show Steps p.tables e below (T58.setTop (mkF m 114 #[.val (.long q1), .second, .val (.long q2), .second, .val (.int p3), .val (.int p4), .val (.int p5), .val (.int l1), .val (.ref b3), .val (.ref b25), .unset, .unset, .unset, .unset, .unset, .unset, .unset, .unset, .unset, .unset] [])) _
      refine XS.iload X58.here hx rfl (hb hby at_114) rfl ?_
      show Steps p.tables e below (T58.setTop (mkF m 116 #[.val (.long q1), .second, .val (.long q2), .second, .val (.int p3), .val (.int p4), .val (.int p5), .val (.int l1), .val (.ref b3), .val (.ref b25), .unset, .unset, .unset, .unset, .unset, .unset, .unset, .unset, .unset, .unset] [(.int l1)])) _
      refine XS.goto X58.here hx rfl (pc0 := 116) (pc' := 126) rfl (hb hby at_116) (by decide) (by decide) ?_
      show Steps p.tables e below (T58.setTop (mkF m 126 #[.val (.long q1), .second, .val (.long q2), .second, .val (.int p3), .val (.int p4), .val (.int p5), .val (.int l1), .val (.ref b3), .val (.ref b25), .unset, .unset, .unset, .unset, .unset, .unset, .unset, .unset, .unset, .unset] [(.int l1)])) _
      exact kk
  obtain ⟨zi67, hz67⟩ : ∃ z, z = (if (((p5.toUInt32 >>> ((5 : Int32) &&& 31).toUInt32).toInt32) &&& (1 : Int32)) = (0 : Int32) then (((p5.toUInt32 >>> ((6 : Int32) &&& 31).toUInt32).toInt32) &&& (3 : Int32)) else l1) := ⟨_, rfl⟩
  rw [← hz67] at pre64
  have hl2 := own_len2 hz67 hl1
  have pre68 : ∀ tgt, Steps p.tables e below (T64.setTop (mkF m 135 #[.val (.long q1), .second, .val (.long q2), .second, .val (.int p3), .val (.int p4), .val (.int p5), .val (.int l1), .val (.ref b3), .val (.ref b25), .val (.int zi67), .unset, .unset, .unset, .unset, .unset, .unset, .unset, .unset, .unset] [(.int (((p5.toUInt32 >>> ((8 : Int32) &&& 31).toUInt32).toInt32) &&& (1 : Int32)))])) tgt → Steps p.tables e below (s₁.setTop (entryFrame m #[(.long q1), (.long q2), (.int p3), (.int p4), (.int p5)] maxLocals)) tgt := by
    intro tgt kk
    refine pre64 tgt ?_
    refine XS.istore X64.here hx rfl (hb hby at_126) rfl (l' := #[.val (.long q1), .second, .val (.long q2), .second, .val (.int p3), .val (.int p4), .val (.int p5), .val (.int l1), .val (.ref b3), .val (.ref b25), .val (.int zi67), .unset, .unset, .unset, .unset, .unset, .unset, .unset, .unset, .unset]) rfl ?_
    show Steps p.tables e below (T64.setTop (mkF m 128 #[.val (.long q1), .second, .val (.long q2), .second, .val (.int p3), .val (.int p4), .val (.int p5), .val (.int l1), .val (.ref b3), .val (.ref b25), .val (.int zi67), .unset, .unset, .unset, .unset, .unset, .unset, .unset, .unset, .unset] [])) _
    refine XS.iload X64.here hx rfl (hb hby at_128) rfl ?_
    show Steps p.tables e below (T64.setTop (mkF m 130 #[.val (.long q1), .second, .val (.long q2), .second, .val (.int p3), .val (.int p4), .val (.int p5), .val (.int l1), .val (.ref b3), .val (.ref b25), .val (.int zi67), .unset, .unset, .unset, .unset, .unset, .unset, .unset, .unset, .unset] [(.int p5)])) _
    refine XS.bipush X64.here hx rfl (hb hby at_130) ?_
    show Steps p.tables e below (T64.setTop (mkF m 132 #[.val (.long q1), .second, .val (.long q2), .second, .val (.int p3), .val (.int p4), .val (.int p5), .val (.int l1), .val (.ref b3), .val (.ref b25), .val (.int zi67), .unset, .unset, .unset, .unset, .unset, .unset, .unset, .unset, .unset] [(.int (8 : Int32)), (.int p5)])) _
    refine XS.iushr X64.here hx rfl (hb hby at_132) rfl ?_
    show Steps p.tables e below (T64.setTop (mkF m 133 #[.val (.long q1), .second, .val (.long q2), .second, .val (.int p3), .val (.int p4), .val (.int p5), .val (.int l1), .val (.ref b3), .val (.ref b25), .val (.int zi67), .unset, .unset, .unset, .unset, .unset, .unset, .unset, .unset, .unset] [(.int ((p5.toUInt32 >>> ((8 : Int32) &&& 31).toUInt32).toInt32))])) _
    refine XS.iconst X64.here hx rfl (hb hby at_133) ?_
    show Steps p.tables e below (T64.setTop (mkF m 134 #[.val (.long q1), .second, .val (.long q2), .second, .val (.int p3), .val (.int p4), .val (.int p5), .val (.int l1), .val (.ref b3), .val (.ref b25), .val (.int zi67), .unset, .unset, .unset, .unset, .unset, .unset, .unset, .unset, .unset] [(.int (1 : Int32)), (.int ((p5.toUInt32 >>> ((8 : Int32) &&& 31).toUInt32).toInt32))])) _
    refine XS.iand X64.here hx rfl (hb hby at_134) rfl ?_
    show Steps p.tables e below (T64.setTop (mkF m 135 #[.val (.long q1), .second, .val (.long q2), .second, .val (.int p3), .val (.int p4), .val (.int p5), .val (.int l1), .val (.ref b3), .val (.ref b25), .val (.int zi67), .unset, .unset, .unset, .unset, .unset, .unset, .unset, .unset, .unset] [(.int (((p5.toUInt32 >>> ((8 : Int32) &&& 31).toUInt32).toInt32) &&& (1 : Int32)))])) _
    exact kk
  obtain ⟨T70, lo70, X70, N70, e70, pre70⟩ : ∃ (T' : State) (lo : List Loc), Stand p l e room_1 s m #[(.long q1), (.long q2), (.int p3), (.int p4), (.int p5)] below meth c T' lo 2 6 ∧ Fr n0 lo ∧ T'.heap = h58 ∧ ∀ tgt, Steps p.tables e below (T'.setTop (mkF m 145 #[.val (.long q1), .second, .val (.long q2), .second, .val (.int p3), .val (.int p4), .val (.int p5), .val (.int l1), .val (.ref b3), .val (.ref b25), .val (.int zi67), .unset, .unset, .unset, .unset, .unset, .unset, .unset, .unset, .unset] [(.int (if (((p5.toUInt32 >>> ((8 : Int32) &&& 31).toUInt32).toInt32) &&& (1 : Int32)) = (0 : Int32) then p4 else p3))])) tgt → Steps p.tables e below (s₁.setTop (entryFrame m #[(.long q1), (.long q2), (.int p3), (.int p4), (.int p5)] maxLocals)) tgt := by
    by_cases hc135_69 : (((p5.toUInt32 >>> ((8 : Int32) &&& 31).toUInt32).toInt32) &&& (1 : Int32)) = (0 : Int32)
    · skip
      refine ⟨T64, _, X64, N64, e64, fun tgt kk => ?_⟩
      have kq71 : ((.int (if (((p5.toUInt32 >>> ((8 : Int32) &&& 31).toUInt32).toInt32) &&& (1 : Int32)) = (0 : Int32) then p4 else p3)) : Value) = (.int p4) := (congrArg Value.int (if_pos hc135_69))
      rw [kq71] at kk
      refine pre68 tgt ?_
      refine XS.ifYes X64.here hx rfl (pc0 := 135) (pc' := 143) rfl (hb hby at_135) rfl (XT.i0_eq_t hc135_69) (by decide) (by decide) ?_
      show Steps p.tables e below (T64.setTop (mkF m 143 #[.val (.long q1), .second, .val (.long q2), .second, .val (.int p3), .val (.int p4), .val (.int p5), .val (.int l1), .val (.ref b3), .val (.ref b25), .val (.int zi67), .unset, .unset, .unset, .unset, .unset, .unset, .unset, .unset, .unset] [])) _
      refine XS.iload X64.here hx rfl (hb hby at_143) rfl ?_
      show Steps p.tables e below (T64.setTop (mkF m 145 #[.val (.long q1), .second, .val (.long q2), .second, .val (.int p3), .val (.int p4), .val (.int p5), .val (.int l1), .val (.ref b3), .val (.ref b25), .val (.int zi67), .unset, .unset, .unset, .unset, .unset, .unset, .unset, .unset, .unset] [(.int p4)])) _
      exact kk
    · skip
      refine ⟨T64, _, X64, N64, e64, fun tgt kk => ?_⟩
      have kq72 : ((.int (if (((p5.toUInt32 >>> ((8 : Int32) &&& 31).toUInt32).toInt32) &&& (1 : Int32)) = (0 : Int32) then p4 else p3)) : Value) = (.int p3) := (congrArg Value.int (if_neg hc135_69))
      rw [kq72] at kk
      refine pre68 tgt ?_
      refine XS.ifNo X64.here hx rfl (hb hby at_135) rfl (XT.i0_eq_f hc135_69) ?_
      show Steps p.tables e below (T64.setTop (mkF m 138 #[.val (.long q1), .second, .val (.long q2), .second, .val (.int p3), .val (.int p4), .val (.int p5), .val (.int l1), .val (.ref b3), .val (.ref b25), .val (.int zi67), .unset, .unset, .unset, .unset, .unset, .unset, .unset, .unset, .unset] [])) _
      refine XS.iload X64.here hx rfl (hb hby at_138) rfl ?_
      show Steps p.tables e below (T64.setTop (mkF m 140 #[.val (.long q1), .second, .val (.long q2), .second, .val (.int p3), .val (.int p4), .val (.int p5), .val (.int l1), .val (.ref b3), .val (.ref b25), .val (.int zi67), .unset, .unset, .unset, .unset, .unset, .unset, .unset, .unset, .unset] [(.int p3)])) _
      refine XS.goto X64.here hx rfl (pc0 := 140) (pc' := 145) rfl (hb hby at_140) (by decide) (by decide) ?_
      show Steps p.tables e below (T64.setTop (mkF m 145 #[.val (.long q1), .second, .val (.long q2), .second, .val (.int p3), .val (.int p4), .val (.int p5), .val (.int l1), .val (.ref b3), .val (.ref b25), .val (.int zi67), .unset, .unset, .unset, .unset, .unset, .unset, .unset, .unset, .unset] [(.int p3)])) _
      exact kk
  obtain ⟨zi73, hz73⟩ : ∃ z, z = (if (((p5.toUInt32 >>> ((8 : Int32) &&& 31).toUInt32).toInt32) &&& (1 : Int32)) = (0 : Int32) then p4 else p3) := ⟨_, rfl⟩
  rw [← hz73] at pre70
  have pre74 : ∀ tgt, Steps p.tables e below (T70.setTop (mkF m 160 #[.val (.long q1), .second, .val (.long q2), .second, .val (.int p3), .val (.int p4), .val (.int p5), .val (.int l1), .val (.ref b3), .val (.ref b25), .val (.int zi67), .val (.int zi73), .val (.int (((p5.toUInt32 >>> ((9 : Int32) &&& 31).toUInt32).toInt32) &&& (3 : Int32))), .unset, .unset, .unset, .unset, .unset, .unset, .unset] [(.int l1), (.ref b3)])) tgt → Steps p.tables e below (s₁.setTop (entryFrame m #[(.long q1), (.long q2), (.int p3), (.int p4), (.int p5)] maxLocals)) tgt := by
    intro tgt kk
    refine pre70 tgt ?_
    refine XS.istore X70.here hx rfl (hb hby at_145) rfl (l' := #[.val (.long q1), .second, .val (.long q2), .second, .val (.int p3), .val (.int p4), .val (.int p5), .val (.int l1), .val (.ref b3), .val (.ref b25), .val (.int zi67), .val (.int zi73), .unset, .unset, .unset, .unset, .unset, .unset, .unset, .unset]) rfl ?_
    show Steps p.tables e below (T70.setTop (mkF m 147 #[.val (.long q1), .second, .val (.long q2), .second, .val (.int p3), .val (.int p4), .val (.int p5), .val (.int l1), .val (.ref b3), .val (.ref b25), .val (.int zi67), .val (.int zi73), .unset, .unset, .unset, .unset, .unset, .unset, .unset, .unset] [])) _
    refine XS.iload X70.here hx rfl (hb hby at_147) rfl ?_
    show Steps p.tables e below (T70.setTop (mkF m 149 #[.val (.long q1), .second, .val (.long q2), .second, .val (.int p3), .val (.int p4), .val (.int p5), .val (.int l1), .val (.ref b3), .val (.ref b25), .val (.int zi67), .val (.int zi73), .unset, .unset, .unset, .unset, .unset, .unset, .unset, .unset] [(.int p5)])) _
    refine XS.bipush X70.here hx rfl (hb hby at_149) ?_
    show Steps p.tables e below (T70.setTop (mkF m 151 #[.val (.long q1), .second, .val (.long q2), .second, .val (.int p3), .val (.int p4), .val (.int p5), .val (.int l1), .val (.ref b3), .val (.ref b25), .val (.int zi67), .val (.int zi73), .unset, .unset, .unset, .unset, .unset, .unset, .unset, .unset] [(.int (9 : Int32)), (.int p5)])) _
    refine XS.iushr X70.here hx rfl (hb hby at_151) rfl ?_
    show Steps p.tables e below (T70.setTop (mkF m 152 #[.val (.long q1), .second, .val (.long q2), .second, .val (.int p3), .val (.int p4), .val (.int p5), .val (.int l1), .val (.ref b3), .val (.ref b25), .val (.int zi67), .val (.int zi73), .unset, .unset, .unset, .unset, .unset, .unset, .unset, .unset] [(.int ((p5.toUInt32 >>> ((9 : Int32) &&& 31).toUInt32).toInt32))])) _
    refine XS.iconst X70.here hx rfl (hb hby at_152) ?_
    show Steps p.tables e below (T70.setTop (mkF m 153 #[.val (.long q1), .second, .val (.long q2), .second, .val (.int p3), .val (.int p4), .val (.int p5), .val (.int l1), .val (.ref b3), .val (.ref b25), .val (.int zi67), .val (.int zi73), .unset, .unset, .unset, .unset, .unset, .unset, .unset, .unset] [(.int (3 : Int32)), (.int ((p5.toUInt32 >>> ((9 : Int32) &&& 31).toUInt32).toInt32))])) _
    refine XS.iand X70.here hx rfl (hb hby at_153) rfl ?_
    show Steps p.tables e below (T70.setTop (mkF m 154 #[.val (.long q1), .second, .val (.long q2), .second, .val (.int p3), .val (.int p4), .val (.int p5), .val (.int l1), .val (.ref b3), .val (.ref b25), .val (.int zi67), .val (.int zi73), .unset, .unset, .unset, .unset, .unset, .unset, .unset, .unset] [(.int (((p5.toUInt32 >>> ((9 : Int32) &&& 31).toUInt32).toInt32) &&& (3 : Int32)))])) _
    refine XS.istore X70.here hx rfl (hb hby at_154) rfl (l' := #[.val (.long q1), .second, .val (.long q2), .second, .val (.int p3), .val (.int p4), .val (.int p5), .val (.int l1), .val (.ref b3), .val (.ref b25), .val (.int zi67), .val (.int zi73), .val (.int (((p5.toUInt32 >>> ((9 : Int32) &&& 31).toUInt32).toInt32) &&& (3 : Int32))), .unset, .unset, .unset, .unset, .unset, .unset, .unset]) rfl ?_
    show Steps p.tables e below (T70.setTop (mkF m 156 #[.val (.long q1), .second, .val (.long q2), .second, .val (.int p3), .val (.int p4), .val (.int p5), .val (.int l1), .val (.ref b3), .val (.ref b25), .val (.int zi67), .val (.int zi73), .val (.int (((p5.toUInt32 >>> ((9 : Int32) &&& 31).toUInt32).toInt32) &&& (3 : Int32))), .unset, .unset, .unset, .unset, .unset, .unset, .unset] [])) _
    refine XS.aload X70.here hx rfl (hb hby at_156) rfl rfl ?_
    show Steps p.tables e below (T70.setTop (mkF m 158 #[.val (.long q1), .second, .val (.long q2), .second, .val (.int p3), .val (.int p4), .val (.int p5), .val (.int l1), .val (.ref b3), .val (.ref b25), .val (.int zi67), .val (.int zi73), .val (.int (((p5.toUInt32 >>> ((9 : Int32) &&& 31).toUInt32).toInt32) &&& (3 : Int32))), .unset, .unset, .unset, .unset, .unset, .unset, .unset] [(.ref b3)])) _
    refine XS.iload X70.here hx rfl (hb hby at_158) rfl ?_
    show Steps p.tables e below (T70.setTop (mkF m 160 #[.val (.long q1), .second, .val (.long q2), .second, .val (.int p3), .val (.int p4), .val (.int p5), .val (.int l1), .val (.ref b3), .val (.ref b25), .val (.int zi67), .val (.int zi73), .val (.int (((p5.toUInt32 >>> ((9 : Int32) &&& 31).toUInt32).toInt32) &&& (3 : Int32))), .unset, .unset, .unset, .unset, .unset, .unset, .unset] [(.int l1), (.ref b3)])) _
    exact kk
  have lt75_0 := V_b3.lt
  have lt75_1 := V_b25.lt
  obtain ⟨_, _, ⟨T76, L76, k76, n76⟩, -, X76, hSi76, hgi76, ⟨Lc76, hQ76, l76, y76, z76, CL76⟩, st76⟩ := callSS X70 hx (y := (⟨"com/example/postie/postie/config/ListenEqualsPinLaw", "make", "([CI)Ljava/lang/String;"⟩ : MethodName)) hown (mvT hZ (hw _ (List.mem_of_getElem? (i := 6) rfl))) (mvT hZ (hw _ (List.mem_of_getElem? (i := 7) rfl))) (mvT hZ (hw _ (List.mem_of_getElem? (i := 4) rfl))) (mvT hZ (hw _ (List.mem_of_getElem? (i := 8) rfl))) (by decide) (backOfSH (s := s) (vm0 := s.vm) (W := 0) (rmMk l Z a0 hw [] b3 k3 l1 x0 x1 x2 z0 h58 n0 Zs60 S_CS V_b3 hpx0 hpx1 hpx2 hz) hZ (hw _ (List.mem_of_getElem? (i := 8) rfl)) (hw _ (List.mem_of_getElem? (i := 4) rfl)) (by decide) (by decide) hEL CH59.1) (g := (mkF m 160 #[.val (.long q1), .second, .val (.long q2), .second, .val (.int p3), .val (.int p4), .val (.int p5), .val (.int l1), .val (.ref b3), .val (.ref b25), .val (.int zi67), .val (.int zi73), .val (.int (((p5.toUInt32 >>> ((9 : Int32) &&& 31).toUInt32).toInt32) &&& (3 : Int32))), .unset, .unset, .unset, .unset, .unset, .unset, .unset] [(.int l1), (.ref b3)])) rfl (by rw [hml]; rfl) (argsL := [(.ref b3), (.int l1)]) (rest := []) (lenOf pd___CI_Ljava_lang_String_ rfl) rfl (by show 2 * 0 + _ ≤ _; exact Nat.le_of_eq rfl) (hb hby at_160) (fun _ _ => ⟨rfl, e70, (by decide : 2 + 6 ≤ _), (by decide : 6 + 15 ≤ _)⟩)
  dsimp only [Pt.U, Pt.locs, Pt.cells, Pt.slots] at X76 l76 y76 z76 st76 hQ76 hSi76 hgi76 CL76
  subst l76 y76 z76
  obtain ⟨r76, t76, kk76, rfl, N76q, K76, sr76, Qe76, Qv76, Qc76, Qa76⟩ := hQ76
  have N76 := Fr.app N70 N76q
  have hS76 := foldS (s := s) ((State.WarmedH.refl s).since 0) (by rw [e70]; exact (Nat.zero_le _)) hSi76 hgi76
  have hZ : Z.Warmed39 (s.setVm T76.vm).vm := State.Warmed39.trans hZ hSi76.1
  have hown : (s.setVm T76.vm).vm.findClass "com/example/postie/postie/config/ListenEqualsPinLaw" = some m.cls := by rw [show (s.setVm T76.vm).vm = T76.vm from rfl, hSi76.1.alike.findClass]; exact hown
  have ltS77_0 := V_b3.lt
  have ltS77_1 := V_b25.lt
  have CH77 : CHr Z own_EL s.vm h0 T76.vm T76.heap := CH59.trans CL76
  have Sf77_ltS77_0 := CL76.safe ltS77_0 Sf59_ltS59_0
  have Sf77_ltS77_1 := CL76.safe ltS77_1 Sf59_ltS59_1
  have S_CS : Sta Z T76.heap "java/lang/String" "COMPACT_STRINGS" "Z" (.int z0) := own_sta_keep S_CS K76 all0
  have V_b3 : Arv Z T76.heap b3 k3 .char (3 : Int32) [(.int x0), (.int x1), (.int x2)] (.int (0 : Int32)) := V_b3.keep K76 nin0
  have V_b25 : Arv Z T76.heap b25 k25 .char (3 : Int32) [(.int y0), (.int y1), (.int y2)] (.int (0 : Int32)) := V_b25.keep K76 nin0
  have Zs78 : n0 ≤ T76.heap.size := Nat.le_trans Zs60 K76.1
  have KC78 : Keep h0 T76.heap [] := KC60.trans K76 all0
  have ner76lt75_0 : b3 ≠ r76 := Nat.ne_of_lt (Nat.lt_of_lt_of_le lt75_0 sr76)
  have ner76lt75_1 : b25 ≠ r76 := Nat.ne_of_lt (Nat.lt_of_lt_of_le lt75_1 sr76)
  have szr76 : h0.size ≤ r76 := Nat.le_trans KC60.1 sr76
  have E_r76 : Exa Z T76.heap r76 "java/lang/String" := Qe76
  have Fv_r76 : Fld Z T76.heap r76 "java/lang/String" "value" "[B" (.ref t76) := Qv76
  have Fc_r76 : Fld Z T76.heap r76 "java/lang/String" "coder" "B" (.int (0 : Int32)) := Qc76
  have V_r76 : Arv Z T76.heap t76 kk76 .byte (Int32.ofNat (own_cs l1 x0 x1 x2).length) (((own_cs l1 x0 x1 x2).map (fun c => c.toInt8.toInt32)).map Value.int) (.int (0 : Int32)) := Qa76
  have pre79 : ∀ tgt, Steps p.tables e below (T76.setTop (mkF m 169 #[.val (.long q1), .second, .val (.long q2), .second, .val (.int p3), .val (.int p4), .val (.int p5), .val (.int l1), .val (.ref b3), .val (.ref b25), .val (.int zi67), .val (.int zi73), .val (.int (((p5.toUInt32 >>> ((9 : Int32) &&& 31).toUInt32).toInt32) &&& (3 : Int32))), .val (.ref r76), .unset, .unset, .unset, .unset, .unset, .unset] [(.int zi67), (.ref b25)])) tgt → Steps p.tables e below (s₁.setTop (entryFrame m #[(.long q1), (.long q2), (.int p3), (.int p4), (.int p5)] maxLocals)) tgt := by
    intro tgt kk
    refine pre74 tgt ?_
    refine st76.trans ?_
    show Steps p.tables e below (T76.setTop (mkF m 163 #[.val (.long q1), .second, .val (.long q2), .second, .val (.int p3), .val (.int p4), .val (.int p5), .val (.int l1), .val (.ref b3), .val (.ref b25), .val (.int zi67), .val (.int zi73), .val (.int (((p5.toUInt32 >>> ((9 : Int32) &&& 31).toUInt32).toInt32) &&& (3 : Int32))), .unset, .unset, .unset, .unset, .unset, .unset, .unset] [(.ref r76)])) _
    refine XS.astore X76.here hx rfl (hb hby at_163) rfl rfl (l' := #[.val (.long q1), .second, .val (.long q2), .second, .val (.int p3), .val (.int p4), .val (.int p5), .val (.int l1), .val (.ref b3), .val (.ref b25), .val (.int zi67), .val (.int zi73), .val (.int (((p5.toUInt32 >>> ((9 : Int32) &&& 31).toUInt32).toInt32) &&& (3 : Int32))), .val (.ref r76), .unset, .unset, .unset, .unset, .unset, .unset]) rfl ?_
    show Steps p.tables e below (T76.setTop (mkF m 165 #[.val (.long q1), .second, .val (.long q2), .second, .val (.int p3), .val (.int p4), .val (.int p5), .val (.int l1), .val (.ref b3), .val (.ref b25), .val (.int zi67), .val (.int zi73), .val (.int (((p5.toUInt32 >>> ((9 : Int32) &&& 31).toUInt32).toInt32) &&& (3 : Int32))), .val (.ref r76), .unset, .unset, .unset, .unset, .unset, .unset] [])) _
    refine XS.aload X76.here hx rfl (hb hby at_165) rfl rfl ?_
    show Steps p.tables e below (T76.setTop (mkF m 167 #[.val (.long q1), .second, .val (.long q2), .second, .val (.int p3), .val (.int p4), .val (.int p5), .val (.int l1), .val (.ref b3), .val (.ref b25), .val (.int zi67), .val (.int zi73), .val (.int (((p5.toUInt32 >>> ((9 : Int32) &&& 31).toUInt32).toInt32) &&& (3 : Int32))), .val (.ref r76), .unset, .unset, .unset, .unset, .unset, .unset] [(.ref b25)])) _
    refine XS.iload X76.here hx rfl (hb hby at_167) rfl ?_
    show Steps p.tables e below (T76.setTop (mkF m 169 #[.val (.long q1), .second, .val (.long q2), .second, .val (.int p3), .val (.int p4), .val (.int p5), .val (.int l1), .val (.ref b3), .val (.ref b25), .val (.int zi67), .val (.int zi73), .val (.int (((p5.toUInt32 >>> ((9 : Int32) &&& 31).toUInt32).toInt32) &&& (3 : Int32))), .val (.ref r76), .unset, .unset, .unset, .unset, .unset, .unset] [(.int zi67), (.ref b25)])) _
    exact kk
  have lt80_0 := V_b3.lt
  have lt80_1 := V_b25.lt
  have lt80_2 := E_r76.lt
  have lt80_3 := V_r76.lt
  obtain ⟨_, _, ⟨T81, L81, k81, n81⟩, -, X81, hSi81, hgi81, ⟨Lc81, hQ81, l81, y81, z81, CL81⟩, st81⟩ := callSS X76 hx (y := (⟨"com/example/postie/postie/config/ListenEqualsPinLaw", "make", "([CI)Ljava/lang/String;"⟩ : MethodName)) hown (mvT hZ (hw _ (List.mem_of_getElem? (i := 6) rfl))) (mvT hZ (hw _ (List.mem_of_getElem? (i := 7) rfl))) (mvT hZ (hw _ (List.mem_of_getElem? (i := 4) rfl))) (mvT hZ (hw _ (List.mem_of_getElem? (i := 8) rfl))) (by decide) (backOfSH (s := s) (vm0 := T76.vm) (W := 0) (rmMk l Z a0 hw [] b25 k25 zi67 y0 y1 y2 z0 T76.heap n0 Zs78 S_CS V_b25 hpy0 hpy1 hpy2 hz) hZ (hw _ (List.mem_of_getElem? (i := 8) rfl)) (hw _ (List.mem_of_getElem? (i := 4) rfl)) (by decide) (by decide) hEL CH77.1) (g := (mkF m 169 #[.val (.long q1), .second, .val (.long q2), .second, .val (.int p3), .val (.int p4), .val (.int p5), .val (.int l1), .val (.ref b3), .val (.ref b25), .val (.int zi67), .val (.int zi73), .val (.int (((p5.toUInt32 >>> ((9 : Int32) &&& 31).toUInt32).toInt32) &&& (3 : Int32))), .val (.ref r76), .unset, .unset, .unset, .unset, .unset, .unset] [(.int zi67), (.ref b25)])) rfl (by rw [hml]; rfl) (argsL := [(.ref b25), (.int zi67)]) (rest := []) (lenOf pd___CI_Ljava_lang_String_ rfl) rfl (by show 2 * 0 + _ ≤ _; exact Nat.le_of_eq rfl) (hb hby at_169) (fun _ _ => ⟨rfl, rfl, (by decide : 8 + 6 ≤ _), (by decide : 21 + 15 ≤ _)⟩)
  dsimp only [Pt.U, Pt.locs, Pt.cells, Pt.slots] at X81 l81 y81 z81 st81 hQ81 hSi81 hgi81 CL81
  subst l81 y81 z81
  obtain ⟨r81, t81, kk81, rfl, N81q, K81, sr81, Qe81, Qv81, Qc81, Qa81⟩ := hQ81
  have N81 := Fr.app N76 N81q
  have hS81 := foldS (s := s) hS76 (Nat.le_refl _) hSi81 hgi81
  have hZ : Z.Warmed39 (s.setVm T81.vm).vm := State.Warmed39.trans hZ hSi81.1
  have hown : (s.setVm T81.vm).vm.findClass "com/example/postie/postie/config/ListenEqualsPinLaw" = some m.cls := by rw [show (s.setVm T81.vm).vm = T81.vm from rfl, hSi81.1.alike.findClass]; exact hown
  have ltS82_0 := V_b3.lt
  have ltS82_1 := V_b25.lt
  have CH82 : CHr Z own_EL s.vm h0 T81.vm T81.heap := CH77.trans CL81
  have Sf82_ltS82_0 := CL81.safe ltS82_0 Sf77_ltS77_0
  have Sf82_ltS82_1 := CL81.safe ltS82_1 Sf77_ltS77_1
  have S_CS : Sta Z T81.heap "java/lang/String" "COMPACT_STRINGS" "Z" (.int z0) := own_sta_keep S_CS K81 all0
  have V_b3 : Arv Z T81.heap b3 k3 .char (3 : Int32) [(.int x0), (.int x1), (.int x2)] (.int (0 : Int32)) := V_b3.keep K81 nin0
  have V_b25 : Arv Z T81.heap b25 k25 .char (3 : Int32) [(.int y0), (.int y1), (.int y2)] (.int (0 : Int32)) := V_b25.keep K81 nin0
  have E_r76 : Exa Z T81.heap r76 "java/lang/String" := E_r76.keep K81
  have Fv_r76 : Fld Z T81.heap r76 "java/lang/String" "value" "[B" (.ref t76) := Fv_r76.keep K81 nin0
  have Fc_r76 : Fld Z T81.heap r76 "java/lang/String" "coder" "B" (.int (0 : Int32)) := Fc_r76.keep K81 nin0
  have V_r76 : Arv Z T81.heap t76 kk76 .byte (Int32.ofNat (own_cs l1 x0 x1 x2).length) (((own_cs l1 x0 x1 x2).map (fun c => c.toInt8.toInt32)).map Value.int) (.int (0 : Int32)) := V_r76.keep K81 nin0
  have Zs83 : n0 ≤ T81.heap.size := Nat.le_trans Zs78 K81.1
  have hk83 : T76.heap.size ≤ T81.heap.size := Nat.le_trans (Nat.le_refl _) K81.1
  have KC83 : Keep h0 T81.heap [] := KC78.trans K81 all0
  have ner81lt80_0 : b3 ≠ r81 := Nat.ne_of_lt (Nat.lt_of_lt_of_le lt80_0 sr81)
  have ner81lt80_1 : b25 ≠ r81 := Nat.ne_of_lt (Nat.lt_of_lt_of_le lt80_1 sr81)
  have ner81lt80_2 : r76 ≠ r81 := Nat.ne_of_lt (Nat.lt_of_lt_of_le lt80_2 sr81)
  have ner81lt80_3 : t76 ≠ r81 := Nat.ne_of_lt (Nat.lt_of_lt_of_le lt80_3 sr81)
  have szr81 : h0.size ≤ r81 := Nat.le_trans KC78.1 sr81
  have E_r81 : Exa Z T81.heap r81 "java/lang/String" := Qe81
  have Fv_r81 : Fld Z T81.heap r81 "java/lang/String" "value" "[B" (.ref t81) := Qv81
  have Fc_r81 : Fld Z T81.heap r81 "java/lang/String" "coder" "B" (.int (0 : Int32)) := Qc81
  have V_r81 : Arv Z T81.heap t81 kk81 .byte (Int32.ofNat (own_cs zi67 y0 y1 y2).length) (((own_cs zi67 y0 y1 y2).map (fun c => c.toInt8.toInt32)).map Value.int) (.int (0 : Int32)) := Qa81
  have pre84 : ∀ tgt, Steps p.tables e below (T81.setTop (mkF m 174 #[.val (.long q1), .second, .val (.long q2), .second, .val (.int p3), .val (.int p4), .val (.int p5), .val (.int l1), .val (.ref b3), .val (.ref b25), .val (.int zi67), .val (.int zi73), .val (.int (((p5.toUInt32 >>> ((9 : Int32) &&& 31).toUInt32).toInt32) &&& (3 : Int32))), .val (.ref r76), .val (.ref r81), .unset, .unset, .unset, .unset, .unset] [])) tgt → Steps p.tables e below (s₁.setTop (entryFrame m #[(.long q1), (.long q2), (.int p3), (.int p4), (.int p5)] maxLocals)) tgt := by
    intro tgt kk
    refine pre79 tgt ?_
    refine st81.trans ?_
    show Steps p.tables e below (T81.setTop (mkF m 172 #[.val (.long q1), .second, .val (.long q2), .second, .val (.int p3), .val (.int p4), .val (.int p5), .val (.int l1), .val (.ref b3), .val (.ref b25), .val (.int zi67), .val (.int zi73), .val (.int (((p5.toUInt32 >>> ((9 : Int32) &&& 31).toUInt32).toInt32) &&& (3 : Int32))), .val (.ref r76), .unset, .unset, .unset, .unset, .unset, .unset] [(.ref r81)])) _
    refine XS.astore X81.here hx rfl (hb hby at_172) rfl rfl (l' := #[.val (.long q1), .second, .val (.long q2), .second, .val (.int p3), .val (.int p4), .val (.int p5), .val (.int l1), .val (.ref b3), .val (.ref b25), .val (.int zi67), .val (.int zi73), .val (.int (((p5.toUInt32 >>> ((9 : Int32) &&& 31).toUInt32).toInt32) &&& (3 : Int32))), .val (.ref r76), .val (.ref r81), .unset, .unset, .unset, .unset, .unset]) rfl ?_
    show Steps p.tables e below (T81.setTop (mkF m 174 #[.val (.long q1), .second, .val (.long q2), .second, .val (.int p3), .val (.int p4), .val (.int p5), .val (.int l1), .val (.ref b3), .val (.ref b25), .val (.int zi67), .val (.int zi73), .val (.int (((p5.toUInt32 >>> ((9 : Int32) &&& 31).toUInt32).toInt32) &&& (3 : Int32))), .val (.ref r76), .val (.ref r81), .unset, .unset, .unset, .unset, .unset] [])) _
    exact kk
  obtain ⟨T85, h85, X85, e85, E85, A85, D85, -, st85⟩ := newO X81 hx hZ hown (hw _ (List.mem_of_getElem? (i := 30) rfl)) (hw _ (List.mem_of_getElem? (i := 31) rfl)) (hw _ (List.mem_of_getElem? (i := 32) rfl)) rfl (g := (mkF m 174 #[.val (.long q1), .second, .val (.long q2), .second, .val (.int p3), .val (.int p4), .val (.int p5), .val (.int l1), .val (.ref b3), .val (.ref b25), .val (.int zi67), .val (.int zi73), .val (.int (((p5.toUInt32 >>> ((9 : Int32) &&& 31).toUInt32).toInt32) &&& (3 : Int32))), .val (.ref r76), .val (.ref r81), .unset, .unset, .unset, .unset, .unset] [])) rfl (hb hby at_174) (by decide) (by decide)
  obtain ⟨b85, g85⟩ : ∃ z, z = T81.heap.size := ⟨_, rfl⟩
  rw [← g85] at A85 D85 st85
  have ne86 : b3 ≠ b85 := Nat.ne_of_lt (Nat.lt_of_lt_of_le V_b3.lt (Nat.le_of_eq g85.symm))
  have ne87 : b25 ≠ b85 := Nat.ne_of_lt (Nat.lt_of_lt_of_le V_b25.lt (Nat.le_of_eq g85.symm))
  have ne88 : r76 ≠ b85 := Nat.ne_of_lt (Nat.lt_of_lt_of_le E_r76.lt (Nat.le_of_eq g85.symm))
  have ne89 : t76 ≠ b85 := Nat.ne_of_lt (Nat.lt_of_lt_of_le V_r76.lt (Nat.le_of_eq g85.symm))
  have ne90 : r81 ≠ b85 := Nat.ne_of_lt (Nat.lt_of_lt_of_le E_r81.lt (Nat.le_of_eq g85.symm))
  have ne91 : t81 ≠ b85 := Nat.ne_of_lt (Nat.lt_of_lt_of_le V_r81.lt (Nat.le_of_eq g85.symm))
  have gn92 : n0 ≤ b85 := Nat.le_trans Zs83 (Nat.le_of_eq g85.symm)
  have sz92 : h0.size ≤ b85 := Nat.le_trans KC83.1 (Nat.le_of_eq g85.symm)
  have ltS93_0 := V_b3.lt
  have ltS93_1 := V_b25.lt
  have CA93 : CHr Z own_EL T81.vm T81.heap T81.vm h85 := CHr.ext E85 CH82.1
  have CH93 : CHr Z own_EL s.vm h0 T81.vm h85 := CH82.trans CA93
  have Sf93_ltS93_0 := CA93.safe ltS93_0 Sf82_ltS82_0
  have Sf93_ltS93_1 := CA93.safe ltS93_1 Sf82_ltS82_1
  have S_CS : Sta Z h85 "java/lang/String" "COMPACT_STRINGS" "Z" (.int z0) := S_CS.ext E85
  have V_b3 : Arv Z h85 b3 k3 .char (3 : Int32) [(.int x0), (.int x1), (.int x2)] (.int (0 : Int32)) := V_b3.ext E85
  have V_b25 : Arv Z h85 b25 k25 .char (3 : Int32) [(.int y0), (.int y1), (.int y2)] (.int (0 : Int32)) := V_b25.ext E85
  have E_r76 : Exa Z h85 r76 "java/lang/String" := E_r76.ext E85
  have Fv_r76 : Fld Z h85 r76 "java/lang/String" "value" "[B" (.ref t76) := Fv_r76.ext E85
  have Fc_r76 : Fld Z h85 r76 "java/lang/String" "coder" "B" (.int (0 : Int32)) := Fc_r76.ext E85
  have V_r76 : Arv Z h85 t76 kk76 .byte (Int32.ofNat (own_cs l1 x0 x1 x2).length) (((own_cs l1 x0 x1 x2).map (fun c => c.toInt8.toInt32)).map Value.int) (.int (0 : Int32)) := V_r76.ext E85
  have E_r81 : Exa Z h85 r81 "java/lang/String" := E_r81.ext E85
  have Fv_r81 : Fld Z h85 r81 "java/lang/String" "value" "[B" (.ref t81) := Fv_r81.ext E85
  have Fc_r81 : Fld Z h85 r81 "java/lang/String" "coder" "B" (.int (0 : Int32)) := Fc_r81.ext E85
  have V_r81 : Arv Z h85 t81 kk81 .byte (Int32.ofNat (own_cs zi67 y0 y1 y2).length) (((own_cs zi67 y0 y1 y2).map (fun c => c.toInt8.toInt32)).map Value.int) (.int (0 : Int32)) := V_r81.ext E85
  have Zs94 : n0 ≤ h85.size := Nat.le_trans Zs83 E85.1
  have hk94 : T81.heap.size ≤ h85.size := Nat.le_trans (Nat.le_refl _) E85.1
  have KC94 : Keep h0 h85 [] := KC83.ext E85
  have E_b85 : Exa Z h85 b85 "com/example/postie/postie/config/Listen" := A85
  have F_host_b85 : Fld Z h85 b85 "com/example/postie/postie/config/Listen" "host" "Ljava/lang/String;" .null := D85 (Or.inr (hw _ (List.mem_of_getElem? (i := 44) rfl))) (ty := (.object "java/lang/String")) (by decide)
  have F_port_b85 : Fld Z h85 b85 "com/example/postie/postie/config/Listen" "port" "I" (.int (0 : Int32)) := D85 (Or.inr (hw _ (List.mem_of_getElem? (i := 46) rfl))) (ty := .int) (by decide)
  have Sn95 := Safe.ext E85 CH82.1 (Safe.new (Nat.le_of_eq g85.symm))
  have pre96 : ∀ tgt, Steps p.tables e below (T85.setTop (mkF m 182 #[.val (.long q1), .second, .val (.long q2), .second, .val (.int p3), .val (.int p4), .val (.int p5), .val (.int l1), .val (.ref b3), .val (.ref b25), .val (.int zi67), .val (.int zi73), .val (.int (((p5.toUInt32 >>> ((9 : Int32) &&& 31).toUInt32).toInt32) &&& (3 : Int32))), .val (.ref r76), .val (.ref r81), .unset, .unset, .unset, .unset, .unset] [(.int p3), (.ref r76), (.ref b85), (.ref b85)])) tgt → Steps p.tables e below (s₁.setTop (entryFrame m #[(.long q1), (.long q2), (.int p3), (.int p4), (.int p5)] maxLocals)) tgt := by
    intro tgt kk
    refine pre84 tgt ?_
    refine st85 _ ?_
    show Steps p.tables e below (T85.setTop (mkF m 177 #[.val (.long q1), .second, .val (.long q2), .second, .val (.int p3), .val (.int p4), .val (.int p5), .val (.int l1), .val (.ref b3), .val (.ref b25), .val (.int zi67), .val (.int zi73), .val (.int (((p5.toUInt32 >>> ((9 : Int32) &&& 31).toUInt32).toInt32) &&& (3 : Int32))), .val (.ref r76), .val (.ref r81), .unset, .unset, .unset, .unset, .unset] [(.ref b85)])) _
    refine XS.dup X85.here hx rfl (hb hby at_177) rfl rfl ?_
    show Steps p.tables e below (T85.setTop (mkF m 178 #[.val (.long q1), .second, .val (.long q2), .second, .val (.int p3), .val (.int p4), .val (.int p5), .val (.int l1), .val (.ref b3), .val (.ref b25), .val (.int zi67), .val (.int zi73), .val (.int (((p5.toUInt32 >>> ((9 : Int32) &&& 31).toUInt32).toInt32) &&& (3 : Int32))), .val (.ref r76), .val (.ref r81), .unset, .unset, .unset, .unset, .unset] [(.ref b85), (.ref b85)])) _
    refine XS.aload X85.here hx rfl (hb hby at_178) rfl rfl ?_
    show Steps p.tables e below (T85.setTop (mkF m 180 #[.val (.long q1), .second, .val (.long q2), .second, .val (.int p3), .val (.int p4), .val (.int p5), .val (.int l1), .val (.ref b3), .val (.ref b25), .val (.int zi67), .val (.int zi73), .val (.int (((p5.toUInt32 >>> ((9 : Int32) &&& 31).toUInt32).toInt32) &&& (3 : Int32))), .val (.ref r76), .val (.ref r81), .unset, .unset, .unset, .unset, .unset] [(.ref r76), (.ref b85), (.ref b85)])) _
    refine XS.iload X85.here hx rfl (hb hby at_180) rfl ?_
    show Steps p.tables e below (T85.setTop (mkF m 182 #[.val (.long q1), .second, .val (.long q2), .second, .val (.int p3), .val (.int p4), .val (.int p5), .val (.int l1), .val (.ref b3), .val (.ref b25), .val (.int zi67), .val (.int zi73), .val (.int (((p5.toUInt32 >>> ((9 : Int32) &&& 31).toUInt32).toInt32) &&& (3 : Int32))), .val (.ref r76), .val (.ref r81), .unset, .unset, .unset, .unset, .unset] [(.int p3), (.ref r76), (.ref b85), (.ref b85)])) _
    exact kk
  obtain ⟨_, _, ⟨T97, L97, k97, n97⟩, -, X97, hSi97, hgi97, ⟨Lc97, hQ97, l97, y97, z97, CL97⟩, st97⟩ := X85.specialBackS hx (y := (⟨"com/example/postie/postie/config/Listen", "<init>", "(Ljava/lang/String;I)V"⟩ : MethodName)) rfl hown (mvT hZ (hw _ (List.mem_of_getElem? (i := 33) rfl))) (mvT hZ (hw _ (List.mem_of_getElem? (i := 34) rfl))) (mvT hZ (hw _ (List.mem_of_getElem? (i := 35) rfl))) (by decide) (backOfSH (s := s) (vm0 := T81.vm) (W := 1) (rmLi l Z a0 hw [] b85 r76 (p3) h85 n0 Zs94 E_b85 F_host_b85 F_port_b85 E_r76 gn92) hZ (hw _ (List.mem_of_getElem? (i := 35) rfl)) (hw _ (List.mem_of_getElem? (i := 32) rfl)) (by decide) (by decide) hEL CH93.1) (g := (mkF m 182 #[.val (.long q1), .second, .val (.long q2), .second, .val (.int p3), .val (.int p4), .val (.int p5), .val (.int l1), .val (.ref b3), .val (.ref b25), .val (.int zi67), .val (.int zi73), .val (.int (((p5.toUInt32 >>> ((9 : Int32) &&& 31).toUInt32).toInt32) &&& (3 : Int32))), .val (.ref r76), .val (.ref r81), .unset, .unset, .unset, .unset, .unset] [(.int p3), (.ref r76), (.ref b85), (.ref b85)])) rfl (by rw [hml]; rfl) (Steps.refl _) (a := b85) (argsL := [(.ref r76), (.int p3)]) (rest := [(.ref b85)]) (lenOf pd__Ljava_lang_String_I_V rfl) rfl (by show 2 * 0 + _ ≤ _; exact Nat.le_of_eq rfl) (hb hby at_182) (fun _ _ => ⟨rfl, e85, (by decide : 15 + 2 ≤ _), (by decide : 38 + 20 ≤ _)⟩)
  dsimp only [Pt.U, Pt.locs, Pt.cells, Pt.slots] at X97 l97 y97 z97 st97 hQ97 hSi97 hgi97 CL97
  subst l97 y97 z97
  obtain ⟨rfl, N97q, K97, Qh97, Qp97⟩ := hQ97
  have N97 := Fr.app N81 N97q
  have hS97 := foldS (s := s) hS81 (by rw [e85]; exact hk94) hSi97 hgi97
  have hZ : Z.Warmed39 (s.setVm T97.vm).vm := State.Warmed39.trans hZ hSi97.1
  have hown : (s.setVm T97.vm).vm.findClass "com/example/postie/postie/config/ListenEqualsPinLaw" = some m.cls := by rw [show (s.setVm T97.vm).vm = T97.vm from rfl, hSi97.1.alike.findClass]; exact hown
  have ltS98_0 := V_b3.lt
  have ltS98_1 := V_b25.lt
  have ltS98_2 := E_b85.lt
  have CH98 : CHr Z own_EL s.vm h0 T97.vm T97.heap := CH93.trans CL97
  have Sf98_ltS98_0 := CL97.safe ltS98_0 Sf93_ltS93_0
  have Sf98_ltS98_1 := CL97.safe ltS98_1 Sf93_ltS93_1
  have Sf98_ltS98_2 := CL97.safe ltS98_2 Sn95
  have pl100 := own_plain_Exa E_b85
  have S_CS : Sta Z T97.heap "java/lang/String" "COMPACT_STRINGS" "Z" (.int z0) := own_sta_keep S_CS K97 (allS pl100 all0)
  have V_b3 : Arv Z T97.heap b3 k3 .char (3 : Int32) [(.int x0), (.int x1), (.int x2)] (.int (0 : Int32)) := V_b3.keep K97 (ninS ne86 nin0)
  have V_b25 : Arv Z T97.heap b25 k25 .char (3 : Int32) [(.int y0), (.int y1), (.int y2)] (.int (0 : Int32)) := V_b25.keep K97 (ninS ne87 nin0)
  have E_r76 : Exa Z T97.heap r76 "java/lang/String" := E_r76.keep K97
  have Fv_r76 : Fld Z T97.heap r76 "java/lang/String" "value" "[B" (.ref t76) := Fv_r76.keep K97 (ninS ne88 nin0)
  have Fc_r76 : Fld Z T97.heap r76 "java/lang/String" "coder" "B" (.int (0 : Int32)) := Fc_r76.keep K97 (ninS ne88 nin0)
  have V_r76 : Arv Z T97.heap t76 kk76 .byte (Int32.ofNat (own_cs l1 x0 x1 x2).length) (((own_cs l1 x0 x1 x2).map (fun c => c.toInt8.toInt32)).map Value.int) (.int (0 : Int32)) := V_r76.keep K97 (ninS ne89 nin0)
  have E_r81 : Exa Z T97.heap r81 "java/lang/String" := E_r81.keep K97
  have Fv_r81 : Fld Z T97.heap r81 "java/lang/String" "value" "[B" (.ref t81) := Fv_r81.keep K97 (ninS ne90 nin0)
  have Fc_r81 : Fld Z T97.heap r81 "java/lang/String" "coder" "B" (.int (0 : Int32)) := Fc_r81.keep K97 (ninS ne90 nin0)
  have V_r81 : Arv Z T97.heap t81 kk81 .byte (Int32.ofNat (own_cs zi67 y0 y1 y2).length) (((own_cs zi67 y0 y1 y2).map (fun c => c.toInt8.toInt32)).map Value.int) (.int (0 : Int32)) := V_r81.keep K97 (ninS ne91 nin0)
  have E_b85 : Exa Z T97.heap b85 "com/example/postie/postie/config/Listen" := E_b85.keep K97
  have Zs99 : n0 ≤ T97.heap.size := Nat.le_trans Zs94 K97.1
  have hk99 : T81.heap.size ≤ T97.heap.size := Nat.le_trans hk94 K97.1
  have KC99 : Keep h0 T97.heap [] := KC94.trans K97 (allS (Or.inr sz92) all0)
  have F_host_b85 := Qh97
  have F_port_b85 := Qp97
  have pre101 : ∀ tgt, Steps p.tables e below (T97.setTop (mkF m 192 #[.val (.long q1), .second, .val (.long q2), .second, .val (.int p3), .val (.int p4), .val (.int p5), .val (.int l1), .val (.ref b3), .val (.ref b25), .val (.int zi67), .val (.int zi73), .val (.int (((p5.toUInt32 >>> ((9 : Int32) &&& 31).toUInt32).toInt32) &&& (3 : Int32))), .val (.ref r76), .val (.ref r81), .val (.ref b85), .val .null, .unset, .unset, .unset] [(.int (((p5.toUInt32 >>> ((9 : Int32) &&& 31).toUInt32).toInt32) &&& (3 : Int32)))])) tgt → Steps p.tables e below (s₁.setTop (entryFrame m #[(.long q1), (.long q2), (.int p3), (.int p4), (.int p5)] maxLocals)) tgt := by
    intro tgt kk
    refine pre96 tgt ?_
    refine st97.trans ?_
    show Steps p.tables e below (T97.setTop (mkF m 185 #[.val (.long q1), .second, .val (.long q2), .second, .val (.int p3), .val (.int p4), .val (.int p5), .val (.int l1), .val (.ref b3), .val (.ref b25), .val (.int zi67), .val (.int zi73), .val (.int (((p5.toUInt32 >>> ((9 : Int32) &&& 31).toUInt32).toInt32) &&& (3 : Int32))), .val (.ref r76), .val (.ref r81), .unset, .unset, .unset, .unset, .unset] [(.ref b85)])) _
    refine XS.astore X97.here hx rfl (hb hby at_185) rfl rfl (l' := #[.val (.long q1), .second, .val (.long q2), .second, .val (.int p3), .val (.int p4), .val (.int p5), .val (.int l1), .val (.ref b3), .val (.ref b25), .val (.int zi67), .val (.int zi73), .val (.int (((p5.toUInt32 >>> ((9 : Int32) &&& 31).toUInt32).toInt32) &&& (3 : Int32))), .val (.ref r76), .val (.ref r81), .val (.ref b85), .unset, .unset, .unset, .unset]) rfl ?_
    show Steps p.tables e below (T97.setTop (mkF m 187 #[.val (.long q1), .second, .val (.long q2), .second, .val (.int p3), .val (.int p4), .val (.int p5), .val (.int l1), .val (.ref b3), .val (.ref b25), .val (.int zi67), .val (.int zi73), .val (.int (((p5.toUInt32 >>> ((9 : Int32) &&& 31).toUInt32).toInt32) &&& (3 : Int32))), .val (.ref r76), .val (.ref r81), .val (.ref b85), .unset, .unset, .unset, .unset] [])) _
    refine XS.aconstNull X97.here hx rfl (hb hby at_187) ?_
    show Steps p.tables e below (T97.setTop (mkF m 188 #[.val (.long q1), .second, .val (.long q2), .second, .val (.int p3), .val (.int p4), .val (.int p5), .val (.int l1), .val (.ref b3), .val (.ref b25), .val (.int zi67), .val (.int zi73), .val (.int (((p5.toUInt32 >>> ((9 : Int32) &&& 31).toUInt32).toInt32) &&& (3 : Int32))), .val (.ref r76), .val (.ref r81), .val (.ref b85), .unset, .unset, .unset, .unset] [.null])) _
    refine XS.astore X97.here hx rfl (hb hby at_188) rfl rfl (l' := #[.val (.long q1), .second, .val (.long q2), .second, .val (.int p3), .val (.int p4), .val (.int p5), .val (.int l1), .val (.ref b3), .val (.ref b25), .val (.int zi67), .val (.int zi73), .val (.int (((p5.toUInt32 >>> ((9 : Int32) &&& 31).toUInt32).toInt32) &&& (3 : Int32))), .val (.ref r76), .val (.ref r81), .val (.ref b85), .val .null, .unset, .unset, .unset]) rfl ?_
    show Steps p.tables e below (T97.setTop (mkF m 190 #[.val (.long q1), .second, .val (.long q2), .second, .val (.int p3), .val (.int p4), .val (.int p5), .val (.int l1), .val (.ref b3), .val (.ref b25), .val (.int zi67), .val (.int zi73), .val (.int (((p5.toUInt32 >>> ((9 : Int32) &&& 31).toUInt32).toInt32) &&& (3 : Int32))), .val (.ref r76), .val (.ref r81), .val (.ref b85), .val .null, .unset, .unset, .unset] [])) _
    refine XS.iload X97.here hx rfl (hb hby at_190) rfl ?_
    show Steps p.tables e below (T97.setTop (mkF m 192 #[.val (.long q1), .second, .val (.long q2), .second, .val (.int p3), .val (.int p4), .val (.int p5), .val (.int l1), .val (.ref b3), .val (.ref b25), .val (.int zi67), .val (.int zi73), .val (.int (((p5.toUInt32 >>> ((9 : Int32) &&& 31).toUInt32).toInt32) &&& (3 : Int32))), .val (.ref r76), .val (.ref r81), .val (.ref b85), .val .null, .unset, .unset, .unset] [(.int (((p5.toUInt32 >>> ((9 : Int32) &&& 31).toUInt32).toInt32) &&& (3 : Int32)))])) _
    exact kk
  by_cases hc192_102 : (((p5.toUInt32 >>> ((9 : Int32) &&& 31).toUInt32).toInt32) &&& (3 : Int32)) = (0 : Int32)
  · skip
    have pre103 : ∀ tgt, Steps p.tables e below (T97.setTop (mkF m 195 #[.val (.long q1), .second, .val (.long q2), .second, .val (.int p3), .val (.int p4), .val (.int p5), .val (.int l1), .val (.ref b3), .val (.ref b25), .val (.int zi67), .val (.int zi73), .val (.int (((p5.toUInt32 >>> ((9 : Int32) &&& 31).toUInt32).toInt32) &&& (3 : Int32))), .val (.ref r76), .val (.ref r81), .val (.ref b85), .val .null, .unset, .unset, .unset] [])) tgt → Steps p.tables e below (s₁.setTop (entryFrame m #[(.long q1), (.long q2), (.int p3), (.int p4), (.int p5)] maxLocals)) tgt := by
      intro tgt kk
      refine pre101 tgt ?_
      refine XS.ifNo X97.here hx rfl (hb hby at_192) rfl (XT.i0_ne_f hc192_102) ?_
      show Steps p.tables e below (T97.setTop (mkF m 195 #[.val (.long q1), .second, .val (.long q2), .second, .val (.int p3), .val (.int p4), .val (.int p5), .val (.int l1), .val (.ref b3), .val (.ref b25), .val (.int zi67), .val (.int zi73), .val (.int (((p5.toUInt32 >>> ((9 : Int32) &&& 31).toUInt32).toInt32) &&& (3 : Int32))), .val (.ref r76), .val (.ref r81), .val (.ref b85), .val .null, .unset, .unset, .unset] [])) _
      exact kk
    obtain ⟨T104, h104, X104, e104, E104, A104, D104, -, st104⟩ := newO X97 hx hZ hown (hw _ (List.mem_of_getElem? (i := 30) rfl)) (hw _ (List.mem_of_getElem? (i := 31) rfl)) (hw _ (List.mem_of_getElem? (i := 32) rfl)) rfl (g := (mkF m 195 #[.val (.long q1), .second, .val (.long q2), .second, .val (.int p3), .val (.int p4), .val (.int p5), .val (.int l1), .val (.ref b3), .val (.ref b25), .val (.int zi67), .val (.int zi73), .val (.int (((p5.toUInt32 >>> ((9 : Int32) &&& 31).toUInt32).toInt32) &&& (3 : Int32))), .val (.ref r76), .val (.ref r81), .val (.ref b85), .val .null, .unset, .unset, .unset] [])) rfl (hb hby at_195) (by decide) (by decide)
    obtain ⟨b104, g104⟩ : ∃ z, z = T97.heap.size := ⟨_, rfl⟩
    rw [← g104] at A104 D104 st104
    have ne105 : b3 ≠ b104 := Nat.ne_of_lt (Nat.lt_of_lt_of_le V_b3.lt (Nat.le_of_eq g104.symm))
    have ne106 : b25 ≠ b104 := Nat.ne_of_lt (Nat.lt_of_lt_of_le V_b25.lt (Nat.le_of_eq g104.symm))
    have ne107 : r76 ≠ b104 := Nat.ne_of_lt (Nat.lt_of_lt_of_le E_r76.lt (Nat.le_of_eq g104.symm))
    have ne108 : t76 ≠ b104 := Nat.ne_of_lt (Nat.lt_of_lt_of_le V_r76.lt (Nat.le_of_eq g104.symm))
    have ne109 : r81 ≠ b104 := Nat.ne_of_lt (Nat.lt_of_lt_of_le E_r81.lt (Nat.le_of_eq g104.symm))
    have ne110 : t81 ≠ b104 := Nat.ne_of_lt (Nat.lt_of_lt_of_le V_r81.lt (Nat.le_of_eq g104.symm))
    have ne111 : b85 ≠ b104 := Nat.ne_of_lt (Nat.lt_of_lt_of_le E_b85.lt (Nat.le_of_eq g104.symm))
    have gn112 : n0 ≤ b104 := Nat.le_trans Zs99 (Nat.le_of_eq g104.symm)
    have sz112 : h0.size ≤ b104 := Nat.le_trans KC99.1 (Nat.le_of_eq g104.symm)
    have ltS113_0 := V_b3.lt
    have ltS113_1 := V_b25.lt
    have ltS113_2 := E_b85.lt
    have CA113 : CHr Z own_EL T97.vm T97.heap T97.vm h104 := CHr.ext E104 CH98.1
    have CH113 : CHr Z own_EL s.vm h0 T97.vm h104 := CH98.trans CA113
    have Sf113_ltS113_0 := CA113.safe ltS113_0 Sf98_ltS98_0
    have Sf113_ltS113_1 := CA113.safe ltS113_1 Sf98_ltS98_1
    have Sf113_ltS113_2 := CA113.safe ltS113_2 Sf98_ltS98_2
    have S_CS : Sta Z h104 "java/lang/String" "COMPACT_STRINGS" "Z" (.int z0) := S_CS.ext E104
    have V_b3 : Arv Z h104 b3 k3 .char (3 : Int32) [(.int x0), (.int x1), (.int x2)] (.int (0 : Int32)) := V_b3.ext E104
    have V_b25 : Arv Z h104 b25 k25 .char (3 : Int32) [(.int y0), (.int y1), (.int y2)] (.int (0 : Int32)) := V_b25.ext E104
    have E_r76 : Exa Z h104 r76 "java/lang/String" := E_r76.ext E104
    have Fv_r76 : Fld Z h104 r76 "java/lang/String" "value" "[B" (.ref t76) := Fv_r76.ext E104
    have Fc_r76 : Fld Z h104 r76 "java/lang/String" "coder" "B" (.int (0 : Int32)) := Fc_r76.ext E104
    have V_r76 : Arv Z h104 t76 kk76 .byte (Int32.ofNat (own_cs l1 x0 x1 x2).length) (((own_cs l1 x0 x1 x2).map (fun c => c.toInt8.toInt32)).map Value.int) (.int (0 : Int32)) := V_r76.ext E104
    have E_r81 : Exa Z h104 r81 "java/lang/String" := E_r81.ext E104
    have Fv_r81 : Fld Z h104 r81 "java/lang/String" "value" "[B" (.ref t81) := Fv_r81.ext E104
    have Fc_r81 : Fld Z h104 r81 "java/lang/String" "coder" "B" (.int (0 : Int32)) := Fc_r81.ext E104
    have V_r81 : Arv Z h104 t81 kk81 .byte (Int32.ofNat (own_cs zi67 y0 y1 y2).length) (((own_cs zi67 y0 y1 y2).map (fun c => c.toInt8.toInt32)).map Value.int) (.int (0 : Int32)) := V_r81.ext E104
    have E_b85 : Exa Z h104 b85 "com/example/postie/postie/config/Listen" := E_b85.ext E104
    have F_host_b85 : Fld Z h104 b85 "com/example/postie/postie/config/Listen" "host" "Ljava/lang/String;" (.ref r76) := F_host_b85.ext E104
    have F_port_b85 : Fld Z h104 b85 "com/example/postie/postie/config/Listen" "port" "I" (.int p3) := F_port_b85.ext E104
    have Zs114 : n0 ≤ h104.size := Nat.le_trans Zs99 E104.1
    have hk114 : T97.heap.size ≤ h104.size := Nat.le_trans (Nat.le_refl _) E104.1
    have KC114 : Keep h0 h104 [] := KC99.ext E104
    have E_b104 : Exa Z h104 b104 "com/example/postie/postie/config/Listen" := A104
    have F_host_b104 : Fld Z h104 b104 "com/example/postie/postie/config/Listen" "host" "Ljava/lang/String;" .null := D104 (Or.inr (hw _ (List.mem_of_getElem? (i := 44) rfl))) (ty := (.object "java/lang/String")) (by decide)
    have F_port_b104 : Fld Z h104 b104 "com/example/postie/postie/config/Listen" "port" "I" (.int (0 : Int32)) := D104 (Or.inr (hw _ (List.mem_of_getElem? (i := 46) rfl))) (ty := .int) (by decide)
    have Sn115 := Safe.ext E104 CH98.1 (Safe.new (Nat.le_of_eq g104.symm))
    have pre116 : ∀ tgt, Steps p.tables e below (T104.setTop (mkF m 203 #[.val (.long q1), .second, .val (.long q2), .second, .val (.int p3), .val (.int p4), .val (.int p5), .val (.int l1), .val (.ref b3), .val (.ref b25), .val (.int zi67), .val (.int zi73), .val (.int (((p5.toUInt32 >>> ((9 : Int32) &&& 31).toUInt32).toInt32) &&& (3 : Int32))), .val (.ref r76), .val (.ref r81), .val (.ref b85), .val .null, .unset, .unset, .unset] [(.int zi73), (.ref r81), (.ref b104), (.ref b104)])) tgt → Steps p.tables e below (s₁.setTop (entryFrame m #[(.long q1), (.long q2), (.int p3), (.int p4), (.int p5)] maxLocals)) tgt := by
      intro tgt kk
      refine pre103 tgt ?_
      refine st104 _ ?_
      show Steps p.tables e below (T104.setTop (mkF m 198 #[.val (.long q1), .second, .val (.long q2), .second, .val (.int p3), .val (.int p4), .val (.int p5), .val (.int l1), .val (.ref b3), .val (.ref b25), .val (.int zi67), .val (.int zi73), .val (.int (((p5.toUInt32 >>> ((9 : Int32) &&& 31).toUInt32).toInt32) &&& (3 : Int32))), .val (.ref r76), .val (.ref r81), .val (.ref b85), .val .null, .unset, .unset, .unset] [(.ref b104)])) _
      refine XS.dup X104.here hx rfl (hb hby at_198) rfl rfl ?_
      show Steps p.tables e below (T104.setTop (mkF m 199 #[.val (.long q1), .second, .val (.long q2), .second, .val (.int p3), .val (.int p4), .val (.int p5), .val (.int l1), .val (.ref b3), .val (.ref b25), .val (.int zi67), .val (.int zi73), .val (.int (((p5.toUInt32 >>> ((9 : Int32) &&& 31).toUInt32).toInt32) &&& (3 : Int32))), .val (.ref r76), .val (.ref r81), .val (.ref b85), .val .null, .unset, .unset, .unset] [(.ref b104), (.ref b104)])) _
      refine XS.aload X104.here hx rfl (hb hby at_199) rfl rfl ?_
      show Steps p.tables e below (T104.setTop (mkF m 201 #[.val (.long q1), .second, .val (.long q2), .second, .val (.int p3), .val (.int p4), .val (.int p5), .val (.int l1), .val (.ref b3), .val (.ref b25), .val (.int zi67), .val (.int zi73), .val (.int (((p5.toUInt32 >>> ((9 : Int32) &&& 31).toUInt32).toInt32) &&& (3 : Int32))), .val (.ref r76), .val (.ref r81), .val (.ref b85), .val .null, .unset, .unset, .unset] [(.ref r81), (.ref b104), (.ref b104)])) _
      refine XS.iload X104.here hx rfl (hb hby at_201) rfl ?_
      show Steps p.tables e below (T104.setTop (mkF m 203 #[.val (.long q1), .second, .val (.long q2), .second, .val (.int p3), .val (.int p4), .val (.int p5), .val (.int l1), .val (.ref b3), .val (.ref b25), .val (.int zi67), .val (.int zi73), .val (.int (((p5.toUInt32 >>> ((9 : Int32) &&& 31).toUInt32).toInt32) &&& (3 : Int32))), .val (.ref r76), .val (.ref r81), .val (.ref b85), .val .null, .unset, .unset, .unset] [(.int zi73), (.ref r81), (.ref b104), (.ref b104)])) _
      exact kk
    obtain ⟨_, _, ⟨T117, L117, k117, n117⟩, -, X117, hSi117, hgi117, ⟨Lc117, hQ117, l117, y117, z117, CL117⟩, st117⟩ := X104.specialBackS hx (y := (⟨"com/example/postie/postie/config/Listen", "<init>", "(Ljava/lang/String;I)V"⟩ : MethodName)) rfl hown (mvT hZ (hw _ (List.mem_of_getElem? (i := 33) rfl))) (mvT hZ (hw _ (List.mem_of_getElem? (i := 34) rfl))) (mvT hZ (hw _ (List.mem_of_getElem? (i := 35) rfl))) (by decide) (backOfSH (s := s) (vm0 := T97.vm) (W := 1) (rmLi l Z a0 hw [] b104 r81 (zi73) h104 n0 Zs114 E_b104 F_host_b104 F_port_b104 E_r81 gn112) hZ (hw _ (List.mem_of_getElem? (i := 35) rfl)) (hw _ (List.mem_of_getElem? (i := 32) rfl)) (by decide) (by decide) hEL CH113.1) (g := (mkF m 203 #[.val (.long q1), .second, .val (.long q2), .second, .val (.int p3), .val (.int p4), .val (.int p5), .val (.int l1), .val (.ref b3), .val (.ref b25), .val (.int zi67), .val (.int zi73), .val (.int (((p5.toUInt32 >>> ((9 : Int32) &&& 31).toUInt32).toInt32) &&& (3 : Int32))), .val (.ref r76), .val (.ref r81), .val (.ref b85), .val .null, .unset, .unset, .unset] [(.int zi73), (.ref r81), (.ref b104), (.ref b104)])) rfl (by rw [hml]; rfl) (Steps.refl _) (a := b104) (argsL := [(.ref r81), (.int zi73)]) (rest := [(.ref b104)]) (lenOf pd__Ljava_lang_String_I_V rfl) rfl (by show 2 * 0 + _ ≤ _; exact Nat.le_of_eq rfl) (hb hby at_203) (fun _ _ => ⟨rfl, e104, (by decide : 18 + 2 ≤ _), (by decide : 60 + 20 ≤ _)⟩)
    dsimp only [Pt.U, Pt.locs, Pt.cells, Pt.slots] at X117 l117 y117 z117 st117 hQ117 hSi117 hgi117 CL117
    subst l117 y117 z117
    obtain ⟨rfl, N117q, K117, Qh117, Qp117⟩ := hQ117
    have N117 := Fr.app N97 N117q
    have hS117 := foldS (s := s) hS97 (by rw [e104]; exact hk114) hSi117 hgi117
    have hZ : Z.Warmed39 (s.setVm T117.vm).vm := State.Warmed39.trans hZ hSi117.1
    have hown : (s.setVm T117.vm).vm.findClass "com/example/postie/postie/config/ListenEqualsPinLaw" = some m.cls := by rw [show (s.setVm T117.vm).vm = T117.vm from rfl, hSi117.1.alike.findClass]; exact hown
    have ltS118_0 := V_b3.lt
    have ltS118_1 := V_b25.lt
    have ltS118_2 := E_b85.lt
    have ltS118_3 := E_b104.lt
    have CH118 : CHr Z own_EL s.vm h0 T117.vm T117.heap := CH113.trans CL117
    have Sf118_ltS118_0 := CL117.safe ltS118_0 Sf113_ltS113_0
    have Sf118_ltS118_1 := CL117.safe ltS118_1 Sf113_ltS113_1
    have Sf118_ltS118_2 := CL117.safe ltS118_2 Sf113_ltS113_2
    have Sf118_ltS118_3 := CL117.safe ltS118_3 Sn115
    have pl120 := own_plain_Exa E_b104
    have S_CS : Sta Z T117.heap "java/lang/String" "COMPACT_STRINGS" "Z" (.int z0) := own_sta_keep S_CS K117 (allS pl120 all0)
    have V_b3 : Arv Z T117.heap b3 k3 .char (3 : Int32) [(.int x0), (.int x1), (.int x2)] (.int (0 : Int32)) := V_b3.keep K117 (ninS ne105 nin0)
    have V_b25 : Arv Z T117.heap b25 k25 .char (3 : Int32) [(.int y0), (.int y1), (.int y2)] (.int (0 : Int32)) := V_b25.keep K117 (ninS ne106 nin0)
    have E_r76 : Exa Z T117.heap r76 "java/lang/String" := E_r76.keep K117
    have Fv_r76 : Fld Z T117.heap r76 "java/lang/String" "value" "[B" (.ref t76) := Fv_r76.keep K117 (ninS ne107 nin0)
    have Fc_r76 : Fld Z T117.heap r76 "java/lang/String" "coder" "B" (.int (0 : Int32)) := Fc_r76.keep K117 (ninS ne107 nin0)
    have V_r76 : Arv Z T117.heap t76 kk76 .byte (Int32.ofNat (own_cs l1 x0 x1 x2).length) (((own_cs l1 x0 x1 x2).map (fun c => c.toInt8.toInt32)).map Value.int) (.int (0 : Int32)) := V_r76.keep K117 (ninS ne108 nin0)
    have E_r81 : Exa Z T117.heap r81 "java/lang/String" := E_r81.keep K117
    have Fv_r81 : Fld Z T117.heap r81 "java/lang/String" "value" "[B" (.ref t81) := Fv_r81.keep K117 (ninS ne109 nin0)
    have Fc_r81 : Fld Z T117.heap r81 "java/lang/String" "coder" "B" (.int (0 : Int32)) := Fc_r81.keep K117 (ninS ne109 nin0)
    have V_r81 : Arv Z T117.heap t81 kk81 .byte (Int32.ofNat (own_cs zi67 y0 y1 y2).length) (((own_cs zi67 y0 y1 y2).map (fun c => c.toInt8.toInt32)).map Value.int) (.int (0 : Int32)) := V_r81.keep K117 (ninS ne110 nin0)
    have E_b85 : Exa Z T117.heap b85 "com/example/postie/postie/config/Listen" := E_b85.keep K117
    have F_host_b85 : Fld Z T117.heap b85 "com/example/postie/postie/config/Listen" "host" "Ljava/lang/String;" (.ref r76) := F_host_b85.keep K117 (ninS ne111 nin0)
    have F_port_b85 : Fld Z T117.heap b85 "com/example/postie/postie/config/Listen" "port" "I" (.int p3) := F_port_b85.keep K117 (ninS ne111 nin0)
    have E_b104 : Exa Z T117.heap b104 "com/example/postie/postie/config/Listen" := E_b104.keep K117
    have Zs119 : n0 ≤ T117.heap.size := Nat.le_trans Zs114 K117.1
    have hk119 : T97.heap.size ≤ T117.heap.size := Nat.le_trans hk114 K117.1
    have KC119 : Keep h0 T117.heap [] := KC114.trans K117 (allS (Or.inr sz112) all0)
    have F_host_b104 := Qh117
    have F_port_b104 := Qp117
    have pre121 : ∀ tgt, Steps p.tables e below (T117.setTop (mkF m 220 #[.val (.long q1), .second, .val (.long q2), .second, .val (.int p3), .val (.int p4), .val (.int p5), .val (.int l1), .val (.ref b3), .val (.ref b25), .val (.int zi67), .val (.int zi73), .val (.int (((p5.toUInt32 >>> ((9 : Int32) &&& 31).toUInt32).toInt32) &&& (3 : Int32))), .val (.ref r76), .val (.ref r81), .val (.ref b85), .val (.ref b104), .val (.ref b104), .unset, .unset] [(.int zi67), (.ref b25), (.int l1), (.ref b3)])) tgt → Steps p.tables e below (s₁.setTop (entryFrame m #[(.long q1), (.long q2), (.int p3), (.int p4), (.int p5)] maxLocals)) tgt := by
      intro tgt kk
      refine pre116 tgt ?_
      refine st117.trans ?_
      show Steps p.tables e below (T117.setTop (mkF m 206 #[.val (.long q1), .second, .val (.long q2), .second, .val (.int p3), .val (.int p4), .val (.int p5), .val (.int l1), .val (.ref b3), .val (.ref b25), .val (.int zi67), .val (.int zi73), .val (.int (((p5.toUInt32 >>> ((9 : Int32) &&& 31).toUInt32).toInt32) &&& (3 : Int32))), .val (.ref r76), .val (.ref r81), .val (.ref b85), .val .null, .unset, .unset, .unset] [(.ref b104)])) _
      refine XS.astore X117.here hx rfl (hb hby at_206) rfl rfl (l' := #[.val (.long q1), .second, .val (.long q2), .second, .val (.int p3), .val (.int p4), .val (.int p5), .val (.int l1), .val (.ref b3), .val (.ref b25), .val (.int zi67), .val (.int zi73), .val (.int (((p5.toUInt32 >>> ((9 : Int32) &&& 31).toUInt32).toInt32) &&& (3 : Int32))), .val (.ref r76), .val (.ref r81), .val (.ref b85), .val (.ref b104), .unset, .unset, .unset]) rfl ?_
      show Steps p.tables e below (T117.setTop (mkF m 208 #[.val (.long q1), .second, .val (.long q2), .second, .val (.int p3), .val (.int p4), .val (.int p5), .val (.int l1), .val (.ref b3), .val (.ref b25), .val (.int zi67), .val (.int zi73), .val (.int (((p5.toUInt32 >>> ((9 : Int32) &&& 31).toUInt32).toInt32) &&& (3 : Int32))), .val (.ref r76), .val (.ref r81), .val (.ref b85), .val (.ref b104), .unset, .unset, .unset] [])) _
      refine XS.aload X117.here hx rfl (hb hby at_208) rfl rfl ?_
      show Steps p.tables e below (T117.setTop (mkF m 210 #[.val (.long q1), .second, .val (.long q2), .second, .val (.int p3), .val (.int p4), .val (.int p5), .val (.int l1), .val (.ref b3), .val (.ref b25), .val (.int zi67), .val (.int zi73), .val (.int (((p5.toUInt32 >>> ((9 : Int32) &&& 31).toUInt32).toInt32) &&& (3 : Int32))), .val (.ref r76), .val (.ref r81), .val (.ref b85), .val (.ref b104), .unset, .unset, .unset] [(.ref b104)])) _
      refine XS.astore X117.here hx rfl (hb hby at_210) rfl rfl (l' := #[.val (.long q1), .second, .val (.long q2), .second, .val (.int p3), .val (.int p4), .val (.int p5), .val (.int l1), .val (.ref b3), .val (.ref b25), .val (.int zi67), .val (.int zi73), .val (.int (((p5.toUInt32 >>> ((9 : Int32) &&& 31).toUInt32).toInt32) &&& (3 : Int32))), .val (.ref r76), .val (.ref r81), .val (.ref b85), .val (.ref b104), .val (.ref b104), .unset, .unset]) rfl ?_
      show Steps p.tables e below (T117.setTop (mkF m 212 #[.val (.long q1), .second, .val (.long q2), .second, .val (.int p3), .val (.int p4), .val (.int p5), .val (.int l1), .val (.ref b3), .val (.ref b25), .val (.int zi67), .val (.int zi73), .val (.int (((p5.toUInt32 >>> ((9 : Int32) &&& 31).toUInt32).toInt32) &&& (3 : Int32))), .val (.ref r76), .val (.ref r81), .val (.ref b85), .val (.ref b104), .val (.ref b104), .unset, .unset] [])) _
      refine XS.aload X117.here hx rfl (hb hby at_212) rfl rfl ?_
      show Steps p.tables e below (T117.setTop (mkF m 214 #[.val (.long q1), .second, .val (.long q2), .second, .val (.int p3), .val (.int p4), .val (.int p5), .val (.int l1), .val (.ref b3), .val (.ref b25), .val (.int zi67), .val (.int zi73), .val (.int (((p5.toUInt32 >>> ((9 : Int32) &&& 31).toUInt32).toInt32) &&& (3 : Int32))), .val (.ref r76), .val (.ref r81), .val (.ref b85), .val (.ref b104), .val (.ref b104), .unset, .unset] [(.ref b3)])) _
      refine XS.iload X117.here hx rfl (hb hby at_214) rfl ?_
      show Steps p.tables e below (T117.setTop (mkF m 216 #[.val (.long q1), .second, .val (.long q2), .second, .val (.int p3), .val (.int p4), .val (.int p5), .val (.int l1), .val (.ref b3), .val (.ref b25), .val (.int zi67), .val (.int zi73), .val (.int (((p5.toUInt32 >>> ((9 : Int32) &&& 31).toUInt32).toInt32) &&& (3 : Int32))), .val (.ref r76), .val (.ref r81), .val (.ref b85), .val (.ref b104), .val (.ref b104), .unset, .unset] [(.int l1), (.ref b3)])) _
      refine XS.aload X117.here hx rfl (hb hby at_216) rfl rfl ?_
      show Steps p.tables e below (T117.setTop (mkF m 218 #[.val (.long q1), .second, .val (.long q2), .second, .val (.int p3), .val (.int p4), .val (.int p5), .val (.int l1), .val (.ref b3), .val (.ref b25), .val (.int zi67), .val (.int zi73), .val (.int (((p5.toUInt32 >>> ((9 : Int32) &&& 31).toUInt32).toInt32) &&& (3 : Int32))), .val (.ref r76), .val (.ref r81), .val (.ref b85), .val (.ref b104), .val (.ref b104), .unset, .unset] [(.ref b25), (.int l1), (.ref b3)])) _
      refine XS.iload X117.here hx rfl (hb hby at_218) rfl ?_
      show Steps p.tables e below (T117.setTop (mkF m 220 #[.val (.long q1), .second, .val (.long q2), .second, .val (.int p3), .val (.int p4), .val (.int p5), .val (.int l1), .val (.ref b3), .val (.ref b25), .val (.int zi67), .val (.int zi73), .val (.int (((p5.toUInt32 >>> ((9 : Int32) &&& 31).toUInt32).toInt32) &&& (3 : Int32))), .val (.ref r76), .val (.ref r81), .val (.ref b85), .val (.ref b104), .val (.ref b104), .unset, .unset] [(.int zi67), (.ref b25), (.int l1), (.ref b3)])) _
      exact kk
    obtain ⟨_, _, ⟨T122, L122, k122, n122⟩, -, X122, ⟨Lc122, hQ122, l122, y122, z122⟩, st122⟩ := Jvm.LawKit.callS X117 hx (y := (⟨"com/example/postie/postie/config/ListenEqualsPinLaw", "sameChars", "([CI[CI)Z"⟩ : MethodName)) hown (mvT hZ (hw _ (List.mem_of_getElem? (i := 47) rfl))) (mvT hZ (hw _ (List.mem_of_getElem? (i := 48) rfl))) (mvT hZ (hw _ (List.mem_of_getElem? (i := 4) rfl))) (mvT hZ (hw _ (List.mem_of_getElem? (i := 49) rfl))) (by decide) (backOf (W := 0) (rmSC l Z a0 hw [] b3 k3 b25 k25 l1 zi67 x0 x1 x2 y0 y1 y2 T117.heap n0 Zs119 V_b3 V_b25) hZ (hw _ (List.mem_of_getElem? (i := 49) rfl)) (hw _ (List.mem_of_getElem? (i := 4) rfl)) (by decide) (by decide)) (g := (mkF m 220 #[.val (.long q1), .second, .val (.long q2), .second, .val (.int p3), .val (.int p4), .val (.int p5), .val (.int l1), .val (.ref b3), .val (.ref b25), .val (.int zi67), .val (.int zi73), .val (.int (((p5.toUInt32 >>> ((9 : Int32) &&& 31).toUInt32).toInt32) &&& (3 : Int32))), .val (.ref r76), .val (.ref r81), .val (.ref b85), .val (.ref b104), .val (.ref b104), .unset, .unset] [(.int zi67), (.ref b25), (.int l1), (.ref b3)])) rfl (by rw [hml]; rfl) (argsL := [(.ref b3), (.int l1), (.ref b25), (.int zi67)]) (rest := []) (lenOf pd___CI_CI_Z rfl) rfl (by show 2 * 0 + _ ≤ _; exact Nat.le_of_eq rfl) (hb hby at_220) (fun _ _ => ⟨rfl, rfl, (by decide : 20 + 0 ≤ _), (by decide : 80 + 0 ≤ _)⟩)
    dsimp only [Pt.U, Pt.locs, Pt.cells, Pt.slots] at X122 l122 y122 z122 st122 hQ122
    subst l122 y122 z122
    obtain ⟨rfl, N122q, hh122⟩ := hQ122
    have N122 := Fr.app N117 N122q
    have pre123 : ∀ tgt, Steps p.tables e below (T122.setTop (mkF m 223 #[.val (.long q1), .second, .val (.long q2), .second, .val (.int p3), .val (.int p4), .val (.int p5), .val (.int l1), .val (.ref b3), .val (.ref b25), .val (.int zi67), .val (.int zi73), .val (.int (((p5.toUInt32 >>> ((9 : Int32) &&& 31).toUInt32).toInt32) &&& (3 : Int32))), .val (.ref r76), .val (.ref r81), .val (.ref b85), .val (.ref b104), .val (.ref b104), .unset, .unset] [(.int (bI ((l1 = zi67) ∧ ((((2 : Int32) < l1) ∧ (((((1 : Int32) < l1) ∧ ((((0 : Int32) < l1) → (x0 = y0)) ∧ (x1 = y1))) ∨ (¬ ((1 : Int32) < l1) ∧ (((0 : Int32) < l1) → (x0 = y0)))) ∧ (x2 = y2))) ∨ (¬ ((2 : Int32) < l1) ∧ ((((1 : Int32) < l1) ∧ ((((0 : Int32) < l1) → (x0 = y0)) ∧ (x1 = y1))) ∨ (¬ ((1 : Int32) < l1) ∧ (((0 : Int32) < l1) → (x0 = y0)))))))))])) tgt → Steps p.tables e below (s₁.setTop (entryFrame m #[(.long q1), (.long q2), (.int p3), (.int p4), (.int p5)] maxLocals)) tgt := by
      intro tgt kk
      refine pre121 tgt ?_
      refine st122 _ ?_
      show Steps p.tables e below (T122.setTop (mkF m 223 #[.val (.long q1), .second, .val (.long q2), .second, .val (.int p3), .val (.int p4), .val (.int p5), .val (.int l1), .val (.ref b3), .val (.ref b25), .val (.int zi67), .val (.int zi73), .val (.int (((p5.toUInt32 >>> ((9 : Int32) &&& 31).toUInt32).toInt32) &&& (3 : Int32))), .val (.ref r76), .val (.ref r81), .val (.ref b85), .val (.ref b104), .val (.ref b104), .unset, .unset] [(.int (bI ((l1 = zi67) ∧ ((((2 : Int32) < l1) ∧ (((((1 : Int32) < l1) ∧ ((((0 : Int32) < l1) → (x0 = y0)) ∧ (x1 = y1))) ∨ (¬ ((1 : Int32) < l1) ∧ (((0 : Int32) < l1) → (x0 = y0)))) ∧ (x2 = y2))) ∨ (¬ ((2 : Int32) < l1) ∧ ((((1 : Int32) < l1) ∧ ((((0 : Int32) < l1) → (x0 = y0)) ∧ (x1 = y1))) ∨ (¬ ((1 : Int32) < l1) ∧ (((0 : Int32) < l1) → (x0 = y0)))))))))])) _
      exact kk
    obtain ⟨T127, lo127, X127, N127, e127, pre127⟩ : ∃ (T' : State) (lo : List Loc), Stand p l e room_1 (s.setVm T117.vm) m #[(.long q1), (.long q2), (.int p3), (.int p4), (.int p5)] below meth c T' lo 20 80 ∧ Fr n0 lo ∧ T'.heap = T117.heap ∧ ∀ tgt, Steps p.tables e below (T'.setTop (mkF m 238 #[.val (.long q1), .second, .val (.long q2), .second, .val (.int p3), .val (.int p4), .val (.int p5), .val (.int l1), .val (.ref b3), .val (.ref b25), .val (.int zi67), .val (.int zi73), .val (.int (((p5.toUInt32 >>> ((9 : Int32) &&& 31).toUInt32).toInt32) &&& (3 : Int32))), .val (.ref r76), .val (.ref r81), .val (.ref b85), .val (.ref b104), .val (.ref b104), .unset, .unset] [(.int (bI (((l1 = zi67) ∧ ((((2 : Int32) < l1) ∧ (((((1 : Int32) < l1) ∧ ((((0 : Int32) < l1) → (x0 = y0)) ∧ (x1 = y1))) ∨ (¬ ((1 : Int32) < l1) ∧ (((0 : Int32) < l1) → (x0 = y0)))) ∧ (x2 = y2))) ∨ (¬ ((2 : Int32) < l1) ∧ ((((1 : Int32) < l1) ∧ ((((0 : Int32) < l1) → (x0 = y0)) ∧ (x1 = y1))) ∨ (¬ ((1 : Int32) < l1) ∧ (((0 : Int32) < l1) → (x0 = y0))))))) ∧ (p3 = zi73))))])) tgt → Steps p.tables e below (s₁.setTop (entryFrame m #[(.long q1), (.long q2), (.int p3), (.int p4), (.int p5)] maxLocals)) tgt := by
      by_cases hc223_124 : (l1 = zi67) ∧ ((((2 : Int32) < l1) ∧ (((((1 : Int32) < l1) ∧ ((((0 : Int32) < l1) → (x0 = y0)) ∧ (x1 = y1))) ∨ (¬ ((1 : Int32) < l1) ∧ (((0 : Int32) < l1) → (x0 = y0)))) ∧ (x2 = y2))) ∨ (¬ ((2 : Int32) < l1) ∧ ((((1 : Int32) < l1) ∧ ((((0 : Int32) < l1) → (x0 = y0)) ∧ (x1 = y1))) ∨ (¬ ((1 : Int32) < l1) ∧ (((0 : Int32) < l1) → (x0 = y0))))))
      · skip
        have pre125 : ∀ tgt, Steps p.tables e below (T122.setTop (mkF m 230 #[.val (.long q1), .second, .val (.long q2), .second, .val (.int p3), .val (.int p4), .val (.int p5), .val (.int l1), .val (.ref b3), .val (.ref b25), .val (.int zi67), .val (.int zi73), .val (.int (((p5.toUInt32 >>> ((9 : Int32) &&& 31).toUInt32).toInt32) &&& (3 : Int32))), .val (.ref r76), .val (.ref r81), .val (.ref b85), .val (.ref b104), .val (.ref b104), .unset, .unset] [(.int zi73), (.int p3)])) tgt → Steps p.tables e below (s₁.setTop (entryFrame m #[(.long q1), (.long q2), (.int p3), (.int p4), (.int p5)] maxLocals)) tgt := by
          intro tgt kk
          refine pre123 tgt ?_
          refine XS.ifNo X122.here hx rfl (hb hby at_223) rfl (bB_eq_f hc223_124) ?_
          show Steps p.tables e below (T122.setTop (mkF m 226 #[.val (.long q1), .second, .val (.long q2), .second, .val (.int p3), .val (.int p4), .val (.int p5), .val (.int l1), .val (.ref b3), .val (.ref b25), .val (.int zi67), .val (.int zi73), .val (.int (((p5.toUInt32 >>> ((9 : Int32) &&& 31).toUInt32).toInt32) &&& (3 : Int32))), .val (.ref r76), .val (.ref r81), .val (.ref b85), .val (.ref b104), .val (.ref b104), .unset, .unset] [])) _
          refine XS.iload X122.here hx rfl (hb hby at_226) rfl ?_
          show Steps p.tables e below (T122.setTop (mkF m 228 #[.val (.long q1), .second, .val (.long q2), .second, .val (.int p3), .val (.int p4), .val (.int p5), .val (.int l1), .val (.ref b3), .val (.ref b25), .val (.int zi67), .val (.int zi73), .val (.int (((p5.toUInt32 >>> ((9 : Int32) &&& 31).toUInt32).toInt32) &&& (3 : Int32))), .val (.ref r76), .val (.ref r81), .val (.ref b85), .val (.ref b104), .val (.ref b104), .unset, .unset] [(.int p3)])) _
          refine XS.iload X122.here hx rfl (hb hby at_228) rfl ?_
          show Steps p.tables e below (T122.setTop (mkF m 230 #[.val (.long q1), .second, .val (.long q2), .second, .val (.int p3), .val (.int p4), .val (.int p5), .val (.int l1), .val (.ref b3), .val (.ref b25), .val (.int zi67), .val (.int zi73), .val (.int (((p5.toUInt32 >>> ((9 : Int32) &&& 31).toUInt32).toInt32) &&& (3 : Int32))), .val (.ref r76), .val (.ref r81), .val (.ref b85), .val (.ref b104), .val (.ref b104), .unset, .unset] [(.int zi73), (.int p3)])) _
          exact kk
        by_cases hc230_126 : p3 = zi73
        · skip
          refine ⟨T122, _, X122, N122, hh122, fun tgt kk => ?_⟩
          have kq128 : ((.int (bI (((l1 = zi67) ∧ ((((2 : Int32) < l1) ∧ (((((1 : Int32) < l1) ∧ ((((0 : Int32) < l1) → (x0 = y0)) ∧ (x1 = y1))) ∨ (¬ ((1 : Int32) < l1) ∧ (((0 : Int32) < l1) → (x0 = y0)))) ∧ (x2 = y2))) ∨ (¬ ((2 : Int32) < l1) ∧ ((((1 : Int32) < l1) ∧ ((((0 : Int32) < l1) → (x0 = y0)) ∧ (x1 = y1))) ∨ (¬ ((1 : Int32) < l1) ∧ (((0 : Int32) < l1) → (x0 = y0))))))) ∧ (p3 = zi73)))) : Value) = (.int (1 : Int32)) := ((congrArg Value.int (bI_iff (and_iff_right hc223_124))).trans (congrArg Value.int (bI_t hc230_126)))
          rw [kq128] at kk
          refine pre125 tgt ?_
          refine XS.icmpNo X122.here hx rfl (hb hby at_230) rfl (XT.ii_ne_f hc230_126) ?_
          show Steps p.tables e below (T122.setTop (mkF m 233 #[.val (.long q1), .second, .val (.long q2), .second, .val (.int p3), .val (.int p4), .val (.int p5), .val (.int l1), .val (.ref b3), .val (.ref b25), .val (.int zi67), .val (.int zi73), .val (.int (((p5.toUInt32 >>> ((9 : Int32) &&& 31).toUInt32).toInt32) &&& (3 : Int32))), .val (.ref r76), .val (.ref r81), .val (.ref b85), .val (.ref b104), .val (.ref b104), .unset, .unset] [])) _
          refine XS.iconst X122.here hx rfl (hb hby at_233) ?_
          show Steps p.tables e below (T122.setTop (mkF m 234 #[.val (.long q1), .second, .val (.long q2), .second, .val (.int p3), .val (.int p4), .val (.int p5), .val (.int l1), .val (.ref b3), .val (.ref b25), .val (.int zi67), .val (.int zi73), .val (.int (((p5.toUInt32 >>> ((9 : Int32) &&& 31).toUInt32).toInt32) &&& (3 : Int32))), .val (.ref r76), .val (.ref r81), .val (.ref b85), .val (.ref b104), .val (.ref b104), .unset, .unset] [(.int (1 : Int32))])) _
          refine XS.goto X122.here hx rfl (pc0 := 234) (pc' := 238) rfl (hb hby at_234) (by decide) (by decide) ?_
          show Steps p.tables e below (T122.setTop (mkF m 238 #[.val (.long q1), .second, .val (.long q2), .second, .val (.int p3), .val (.int p4), .val (.int p5), .val (.int l1), .val (.ref b3), .val (.ref b25), .val (.int zi67), .val (.int zi73), .val (.int (((p5.toUInt32 >>> ((9 : Int32) &&& 31).toUInt32).toInt32) &&& (3 : Int32))), .val (.ref r76), .val (.ref r81), .val (.ref b85), .val (.ref b104), .val (.ref b104), .unset, .unset] [(.int (1 : Int32))])) _
          exact kk
        · skip
          refine ⟨T122, _, X122, N122, hh122, fun tgt kk => ?_⟩
          have kq129 : ((.int (bI (((l1 = zi67) ∧ ((((2 : Int32) < l1) ∧ (((((1 : Int32) < l1) ∧ ((((0 : Int32) < l1) → (x0 = y0)) ∧ (x1 = y1))) ∨ (¬ ((1 : Int32) < l1) ∧ (((0 : Int32) < l1) → (x0 = y0)))) ∧ (x2 = y2))) ∨ (¬ ((2 : Int32) < l1) ∧ ((((1 : Int32) < l1) ∧ ((((0 : Int32) < l1) → (x0 = y0)) ∧ (x1 = y1))) ∨ (¬ ((1 : Int32) < l1) ∧ (((0 : Int32) < l1) → (x0 = y0))))))) ∧ (p3 = zi73)))) : Value) = (.int (0 : Int32)) := ((congrArg Value.int (bI_iff (and_iff_right hc223_124))).trans (congrArg Value.int (bI_f hc230_126)))
          rw [kq129] at kk
          refine pre125 tgt ?_
          refine XS.icmpYes X122.here hx rfl (pc0 := 230) (pc' := 237) rfl (hb hby at_230) rfl (XT.ii_ne_t hc230_126) (by decide) (by decide) ?_
          show Steps p.tables e below (T122.setTop (mkF m 237 #[.val (.long q1), .second, .val (.long q2), .second, .val (.int p3), .val (.int p4), .val (.int p5), .val (.int l1), .val (.ref b3), .val (.ref b25), .val (.int zi67), .val (.int zi73), .val (.int (((p5.toUInt32 >>> ((9 : Int32) &&& 31).toUInt32).toInt32) &&& (3 : Int32))), .val (.ref r76), .val (.ref r81), .val (.ref b85), .val (.ref b104), .val (.ref b104), .unset, .unset] [])) _
          refine XS.iconst X122.here hx rfl (hb hby at_237) ?_
          show Steps p.tables e below (T122.setTop (mkF m 238 #[.val (.long q1), .second, .val (.long q2), .second, .val (.int p3), .val (.int p4), .val (.int p5), .val (.int l1), .val (.ref b3), .val (.ref b25), .val (.int zi67), .val (.int zi73), .val (.int (((p5.toUInt32 >>> ((9 : Int32) &&& 31).toUInt32).toInt32) &&& (3 : Int32))), .val (.ref r76), .val (.ref r81), .val (.ref b85), .val (.ref b104), .val (.ref b104), .unset, .unset] [(.int (0 : Int32))])) _
          exact kk
      · skip
        refine ⟨T122, _, X122, N122, hh122, fun tgt kk => ?_⟩
        have kq130 : ((.int (bI (((l1 = zi67) ∧ ((((2 : Int32) < l1) ∧ (((((1 : Int32) < l1) ∧ ((((0 : Int32) < l1) → (x0 = y0)) ∧ (x1 = y1))) ∨ (¬ ((1 : Int32) < l1) ∧ (((0 : Int32) < l1) → (x0 = y0)))) ∧ (x2 = y2))) ∨ (¬ ((2 : Int32) < l1) ∧ ((((1 : Int32) < l1) ∧ ((((0 : Int32) < l1) → (x0 = y0)) ∧ (x1 = y1))) ∨ (¬ ((1 : Int32) < l1) ∧ (((0 : Int32) < l1) → (x0 = y0))))))) ∧ (p3 = zi73)))) : Value) = (.int (0 : Int32)) := (congrArg Value.int (bI_f (fun q => hc223_124 q.1)))
        rw [kq130] at kk
        refine pre123 tgt ?_
        refine XS.ifYes X122.here hx rfl (pc0 := 223) (pc' := 237) rfl (hb hby at_223) rfl (bB_eq_t hc223_124) (by decide) (by decide) ?_
        show Steps p.tables e below (T122.setTop (mkF m 237 #[.val (.long q1), .second, .val (.long q2), .second, .val (.int p3), .val (.int p4), .val (.int p5), .val (.int l1), .val (.ref b3), .val (.ref b25), .val (.int zi67), .val (.int zi73), .val (.int (((p5.toUInt32 >>> ((9 : Int32) &&& 31).toUInt32).toInt32) &&& (3 : Int32))), .val (.ref r76), .val (.ref r81), .val (.ref b85), .val (.ref b104), .val (.ref b104), .unset, .unset] [])) _
        refine XS.iconst X122.here hx rfl (hb hby at_237) ?_
        show Steps p.tables e below (T122.setTop (mkF m 238 #[.val (.long q1), .second, .val (.long q2), .second, .val (.int p3), .val (.int p4), .val (.int p5), .val (.int l1), .val (.ref b3), .val (.ref b25), .val (.int zi67), .val (.int zi73), .val (.int (((p5.toUInt32 >>> ((9 : Int32) &&& 31).toUInt32).toInt32) &&& (3 : Int32))), .val (.ref r76), .val (.ref r81), .val (.ref b85), .val (.ref b104), .val (.ref b104), .unset, .unset] [(.int (0 : Int32))])) _
        exact kk
    have pre131 : ∀ tgt, Steps p.tables e below (T127.setTop (mkF m 285 #[.val (.long q1), .second, .val (.long q2), .second, .val (.int p3), .val (.int p4), .val (.int p5), .val (.int l1), .val (.ref b3), .val (.ref b25), .val (.int zi67), .val (.int zi73), .val (.int (((p5.toUInt32 >>> ((9 : Int32) &&& 31).toUInt32).toInt32) &&& (3 : Int32))), .val (.ref r76), .val (.ref r81), .val (.ref b85), .val (.ref b104), .val (.ref b104), .val (.int (bI (((l1 = zi67) ∧ ((((2 : Int32) < l1) ∧ (((((1 : Int32) < l1) ∧ ((((0 : Int32) < l1) → (x0 = y0)) ∧ (x1 = y1))) ∨ (¬ ((1 : Int32) < l1) ∧ (((0 : Int32) < l1) → (x0 = y0)))) ∧ (x2 = y2))) ∨ (¬ ((2 : Int32) < l1) ∧ ((((1 : Int32) < l1) ∧ ((((0 : Int32) < l1) → (x0 = y0)) ∧ (x1 = y1))) ∨ (¬ ((1 : Int32) < l1) ∧ (((0 : Int32) < l1) → (x0 = y0))))))) ∧ (p3 = zi73)))), .unset] [(.ref b104), (.ref b85)])) tgt → Steps p.tables e below (s₁.setTop (entryFrame m #[(.long q1), (.long q2), (.int p3), (.int p4), (.int p5)] maxLocals)) tgt := by
      intro tgt kk
      refine pre127 tgt ?_
      refine XS.istore X127.here hx rfl (hb hby at_238) rfl (l' := #[.val (.long q1), .second, .val (.long q2), .second, .val (.int p3), .val (.int p4), .val (.int p5), .val (.int l1), .val (.ref b3), .val (.ref b25), .val (.int zi67), .val (.int zi73), .val (.int (((p5.toUInt32 >>> ((9 : Int32) &&& 31).toUInt32).toInt32) &&& (3 : Int32))), .val (.ref r76), .val (.ref r81), .val (.ref b85), .val (.ref b104), .val (.ref b104), .val (.int (bI (((l1 = zi67) ∧ ((((2 : Int32) < l1) ∧ (((((1 : Int32) < l1) ∧ ((((0 : Int32) < l1) → (x0 = y0)) ∧ (x1 = y1))) ∨ (¬ ((1 : Int32) < l1) ∧ (((0 : Int32) < l1) → (x0 = y0)))) ∧ (x2 = y2))) ∨ (¬ ((2 : Int32) < l1) ∧ ((((1 : Int32) < l1) ∧ ((((0 : Int32) < l1) → (x0 = y0)) ∧ (x1 = y1))) ∨ (¬ ((1 : Int32) < l1) ∧ (((0 : Int32) < l1) → (x0 = y0))))))) ∧ (p3 = zi73)))), .unset]) rfl ?_
      show Steps p.tables e below (T127.setTop (mkF m 240 #[.val (.long q1), .second, .val (.long q2), .second, .val (.int p3), .val (.int p4), .val (.int p5), .val (.int l1), .val (.ref b3), .val (.ref b25), .val (.int zi67), .val (.int zi73), .val (.int (((p5.toUInt32 >>> ((9 : Int32) &&& 31).toUInt32).toInt32) &&& (3 : Int32))), .val (.ref r76), .val (.ref r81), .val (.ref b85), .val (.ref b104), .val (.ref b104), .val (.int (bI (((l1 = zi67) ∧ ((((2 : Int32) < l1) ∧ (((((1 : Int32) < l1) ∧ ((((0 : Int32) < l1) → (x0 = y0)) ∧ (x1 = y1))) ∨ (¬ ((1 : Int32) < l1) ∧ (((0 : Int32) < l1) → (x0 = y0)))) ∧ (x2 = y2))) ∨ (¬ ((2 : Int32) < l1) ∧ ((((1 : Int32) < l1) ∧ ((((0 : Int32) < l1) → (x0 = y0)) ∧ (x1 = y1))) ∨ (¬ ((1 : Int32) < l1) ∧ (((0 : Int32) < l1) → (x0 = y0))))))) ∧ (p3 = zi73)))), .unset] [])) _
      refine XS.goto X127.here hx rfl (pc0 := 240) (pc' := 281) rfl (hb hby at_240) (by decide) (by decide) ?_
      show Steps p.tables e below (T127.setTop (mkF m 281 #[.val (.long q1), .second, .val (.long q2), .second, .val (.int p3), .val (.int p4), .val (.int p5), .val (.int l1), .val (.ref b3), .val (.ref b25), .val (.int zi67), .val (.int zi73), .val (.int (((p5.toUInt32 >>> ((9 : Int32) &&& 31).toUInt32).toInt32) &&& (3 : Int32))), .val (.ref r76), .val (.ref r81), .val (.ref b85), .val (.ref b104), .val (.ref b104), .val (.int (bI (((l1 = zi67) ∧ ((((2 : Int32) < l1) ∧ (((((1 : Int32) < l1) ∧ ((((0 : Int32) < l1) → (x0 = y0)) ∧ (x1 = y1))) ∨ (¬ ((1 : Int32) < l1) ∧ (((0 : Int32) < l1) → (x0 = y0)))) ∧ (x2 = y2))) ∨ (¬ ((2 : Int32) < l1) ∧ ((((1 : Int32) < l1) ∧ ((((0 : Int32) < l1) → (x0 = y0)) ∧ (x1 = y1))) ∨ (¬ ((1 : Int32) < l1) ∧ (((0 : Int32) < l1) → (x0 = y0))))))) ∧ (p3 = zi73)))), .unset] [])) _
      refine XS.aload X127.here hx rfl (hb hby at_281) rfl rfl ?_
      show Steps p.tables e below (T127.setTop (mkF m 283 #[.val (.long q1), .second, .val (.long q2), .second, .val (.int p3), .val (.int p4), .val (.int p5), .val (.int l1), .val (.ref b3), .val (.ref b25), .val (.int zi67), .val (.int zi73), .val (.int (((p5.toUInt32 >>> ((9 : Int32) &&& 31).toUInt32).toInt32) &&& (3 : Int32))), .val (.ref r76), .val (.ref r81), .val (.ref b85), .val (.ref b104), .val (.ref b104), .val (.int (bI (((l1 = zi67) ∧ ((((2 : Int32) < l1) ∧ (((((1 : Int32) < l1) ∧ ((((0 : Int32) < l1) → (x0 = y0)) ∧ (x1 = y1))) ∨ (¬ ((1 : Int32) < l1) ∧ (((0 : Int32) < l1) → (x0 = y0)))) ∧ (x2 = y2))) ∨ (¬ ((2 : Int32) < l1) ∧ ((((1 : Int32) < l1) ∧ ((((0 : Int32) < l1) → (x0 = y0)) ∧ (x1 = y1))) ∨ (¬ ((1 : Int32) < l1) ∧ (((0 : Int32) < l1) → (x0 = y0))))))) ∧ (p3 = zi73)))), .unset] [(.ref b85)])) _
      refine XS.aload X127.here hx rfl (hb hby at_283) rfl rfl ?_
      show Steps p.tables e below (T127.setTop (mkF m 285 #[.val (.long q1), .second, .val (.long q2), .second, .val (.int p3), .val (.int p4), .val (.int p5), .val (.int l1), .val (.ref b3), .val (.ref b25), .val (.int zi67), .val (.int zi73), .val (.int (((p5.toUInt32 >>> ((9 : Int32) &&& 31).toUInt32).toInt32) &&& (3 : Int32))), .val (.ref r76), .val (.ref r81), .val (.ref b85), .val (.ref b104), .val (.ref b104), .val (.int (bI (((l1 = zi67) ∧ ((((2 : Int32) < l1) ∧ (((((1 : Int32) < l1) ∧ ((((0 : Int32) < l1) → (x0 = y0)) ∧ (x1 = y1))) ∨ (¬ ((1 : Int32) < l1) ∧ (((0 : Int32) < l1) → (x0 = y0)))) ∧ (x2 = y2))) ∨ (¬ ((2 : Int32) < l1) ∧ ((((1 : Int32) < l1) ∧ ((((0 : Int32) < l1) → (x0 = y0)) ∧ (x1 = y1))) ∨ (¬ ((1 : Int32) < l1) ∧ (((0 : Int32) < l1) → (x0 = y0))))))) ∧ (p3 = zi73)))), .unset] [(.ref b104), (.ref b85)])) _
      exact kk
    obtain ⟨cq132, kq132, q132a, q132b, q132c⟩ := isOf hZ e127 E_b85
    obtain ⟨_, _, ⟨T132, L132, k132, n132⟩, -, X132, ⟨Lc132, hQ132, l132, y132, z132⟩, st132⟩ := X127.virtualBack hx (y := (⟨"com/example/postie/postie/config/Listen", "equals", "(Ljava/lang/Object;)Z"⟩ : MethodName)) (z := (⟨"com/example/postie/postie/config/Listen", "equals", "(Ljava/lang/Object;)Z"⟩ : MethodName)) hown (mvT hZ (hw _ (List.mem_of_getElem? (i := 50) rfl))) (mvT hZ (hw _ (List.mem_of_getElem? (i := 51) rfl))) (notFace_of_selects (args := #[]) (mvT hZ (hw _ (List.mem_of_getElem? (i := 53) rfl)))) (mvT hZ (hw _ (List.mem_of_getElem? (i := 53) rfl))) (mvT hZ (hw _ (List.mem_of_getElem? (i := 52) rfl))) (by decide) (backOf (W := 0) (rmE l Z a0 hw [] b85 b104 r76 t76 kk76 (own_cs l1 x0 x1 x2) r81 t81 kk81 (own_cs zi67 y0 y1 y2) (p3) (zi73) z0 T117.heap n0 Zs119 S_CS hz F_host_b85 F_port_b85 E_b104 F_host_b104 F_port_b104 E_r76 Fv_r76 Fc_r76 V_r76 E_r81 Fv_r81 Fc_r81 V_r81 (own_cs_p hpx0 hpx1 hpx2) own_cs_len (own_cs_p hpy0 hpy1 hpy2) own_cs_len) hZ (hw _ (List.mem_of_getElem? (i := 54) rfl)) (hw _ (List.mem_of_getElem? (i := 32) rfl)) (by decide) (by decide)) q132a q132c (g := (mkF m 285 #[.val (.long q1), .second, .val (.long q2), .second, .val (.int p3), .val (.int p4), .val (.int p5), .val (.int l1), .val (.ref b3), .val (.ref b25), .val (.int zi67), .val (.int zi73), .val (.int (((p5.toUInt32 >>> ((9 : Int32) &&& 31).toUInt32).toInt32) &&& (3 : Int32))), .val (.ref r76), .val (.ref r81), .val (.ref b85), .val (.ref b104), .val (.ref b104), .val (.int (bI (((l1 = zi67) ∧ ((((2 : Int32) < l1) ∧ (((((1 : Int32) < l1) ∧ ((((0 : Int32) < l1) → (x0 = y0)) ∧ (x1 = y1))) ∨ (¬ ((1 : Int32) < l1) ∧ (((0 : Int32) < l1) → (x0 = y0)))) ∧ (x2 = y2))) ∨ (¬ ((2 : Int32) < l1) ∧ ((((1 : Int32) < l1) ∧ ((((0 : Int32) < l1) → (x0 = y0)) ∧ (x1 = y1))) ∨ (¬ ((1 : Int32) < l1) ∧ (((0 : Int32) < l1) → (x0 = y0))))))) ∧ (p3 = zi73)))), .unset] [(.ref b104), (.ref b85)])) rfl (by rw [hml]; rfl) (Steps.refl _) (argsL := [(.ref b104)]) (rest := []) (lenOf pd__Ljava_lang_Object__Z rfl) rfl (by show 2 * 0 + _ ≤ _; exact Nat.le_of_eq rfl) (hb hby at_285) (fun _ _ => ⟨rfl, e127, (by decide : 20 + 0 ≤ _), (by decide : 80 + 0 ≤ _)⟩)
    dsimp only [Pt.U, Pt.locs, Pt.cells, Pt.slots] at X132 l132 y132 z132 st132 hQ132
    subst l132 y132 z132
    obtain ⟨rfl, N132q, hh132⟩ := hQ132
    have N132 := Fr.app N127 N132q
    have hk133 : ((own_cs zi67 y0 y1 y2 = own_cs l1 x0 x1 x2) ∧ (zi73 = p3)) ↔ (((l1 = zi67) ∧ ((((2 : Int32) < l1) ∧ (((((1 : Int32) < l1) ∧ ((((0 : Int32) < l1) → (x0 = y0)) ∧ (x1 = y1))) ∨ (¬ ((1 : Int32) < l1) ∧ (((0 : Int32) < l1) → (x0 = y0)))) ∧ (x2 = y2))) ∨ (¬ ((2 : Int32) < l1) ∧ ((((1 : Int32) < l1) ∧ ((((0 : Int32) < l1) → (x0 = y0)) ∧ (x1 = y1))) ∨ (¬ ((1 : Int32) < l1) ∧ (((0 : Int32) < l1) → (x0 = y0))))))) ∧ (p3 = zi73)) := own_k0 hl1 hl2
    have pre134 : ∀ tgt, Steps p.tables e below (T132.setTop (mkF m 308 #[.val (.long q1), .second, .val (.long q2), .second, .val (.int p3), .val (.int p4), .val (.int p5), .val (.int l1), .val (.ref b3), .val (.ref b25), .val (.int zi67), .val (.int zi73), .val (.int (((p5.toUInt32 >>> ((9 : Int32) &&& 31).toUInt32).toInt32) &&& (3 : Int32))), .val (.ref r76), .val (.ref r81), .val (.ref b85), .val (.ref b104), .val (.ref b104), .val (.int (bI (((l1 = zi67) ∧ ((((2 : Int32) < l1) ∧ (((((1 : Int32) < l1) ∧ ((((0 : Int32) < l1) → (x0 = y0)) ∧ (x1 = y1))) ∨ (¬ ((1 : Int32) < l1) ∧ (((0 : Int32) < l1) → (x0 = y0)))) ∧ (x2 = y2))) ∨ (¬ ((2 : Int32) < l1) ∧ ((((1 : Int32) < l1) ∧ ((((0 : Int32) < l1) → (x0 = y0)) ∧ (x1 = y1))) ∨ (¬ ((1 : Int32) < l1) ∧ (((0 : Int32) < l1) → (x0 = y0))))))) ∧ (p3 = zi73)))), .val (.int (bI ((own_cs zi67 y0 y1 y2 = own_cs l1 x0 x1 x2) ∧ (zi73 = p3))))] [(.ref b85), (.ref b104)])) tgt → Steps p.tables e below (s₁.setTop (entryFrame m #[(.long q1), (.long q2), (.int p3), (.int p4), (.int p5)] maxLocals)) tgt := by
      intro tgt kk
      refine pre131 tgt ?_
      refine st132.trans ?_
      show Steps p.tables e below (T132.setTop (mkF m 288 #[.val (.long q1), .second, .val (.long q2), .second, .val (.int p3), .val (.int p4), .val (.int p5), .val (.int l1), .val (.ref b3), .val (.ref b25), .val (.int zi67), .val (.int zi73), .val (.int (((p5.toUInt32 >>> ((9 : Int32) &&& 31).toUInt32).toInt32) &&& (3 : Int32))), .val (.ref r76), .val (.ref r81), .val (.ref b85), .val (.ref b104), .val (.ref b104), .val (.int (bI (((l1 = zi67) ∧ ((((2 : Int32) < l1) ∧ (((((1 : Int32) < l1) ∧ ((((0 : Int32) < l1) → (x0 = y0)) ∧ (x1 = y1))) ∨ (¬ ((1 : Int32) < l1) ∧ (((0 : Int32) < l1) → (x0 = y0)))) ∧ (x2 = y2))) ∨ (¬ ((2 : Int32) < l1) ∧ ((((1 : Int32) < l1) ∧ ((((0 : Int32) < l1) → (x0 = y0)) ∧ (x1 = y1))) ∨ (¬ ((1 : Int32) < l1) ∧ (((0 : Int32) < l1) → (x0 = y0))))))) ∧ (p3 = zi73)))), .unset] [(.int (bI ((own_cs zi67 y0 y1 y2 = own_cs l1 x0 x1 x2) ∧ (zi73 = p3))))])) _
      refine XS.istore X132.here hx rfl (hb hby at_288) rfl (l' := #[.val (.long q1), .second, .val (.long q2), .second, .val (.int p3), .val (.int p4), .val (.int p5), .val (.int l1), .val (.ref b3), .val (.ref b25), .val (.int zi67), .val (.int zi73), .val (.int (((p5.toUInt32 >>> ((9 : Int32) &&& 31).toUInt32).toInt32) &&& (3 : Int32))), .val (.ref r76), .val (.ref r81), .val (.ref b85), .val (.ref b104), .val (.ref b104), .val (.int (bI (((l1 = zi67) ∧ ((((2 : Int32) < l1) ∧ (((((1 : Int32) < l1) ∧ ((((0 : Int32) < l1) → (x0 = y0)) ∧ (x1 = y1))) ∨ (¬ ((1 : Int32) < l1) ∧ (((0 : Int32) < l1) → (x0 = y0)))) ∧ (x2 = y2))) ∨ (¬ ((2 : Int32) < l1) ∧ ((((1 : Int32) < l1) ∧ ((((0 : Int32) < l1) → (x0 = y0)) ∧ (x1 = y1))) ∨ (¬ ((1 : Int32) < l1) ∧ (((0 : Int32) < l1) → (x0 = y0))))))) ∧ (p3 = zi73)))), .val (.int (bI ((own_cs zi67 y0 y1 y2 = own_cs l1 x0 x1 x2) ∧ (zi73 = p3))))]) rfl ?_
      show Steps p.tables e below (T132.setTop (mkF m 290 #[.val (.long q1), .second, .val (.long q2), .second, .val (.int p3), .val (.int p4), .val (.int p5), .val (.int l1), .val (.ref b3), .val (.ref b25), .val (.int zi67), .val (.int zi73), .val (.int (((p5.toUInt32 >>> ((9 : Int32) &&& 31).toUInt32).toInt32) &&& (3 : Int32))), .val (.ref r76), .val (.ref r81), .val (.ref b85), .val (.ref b104), .val (.ref b104), .val (.int (bI (((l1 = zi67) ∧ ((((2 : Int32) < l1) ∧ (((((1 : Int32) < l1) ∧ ((((0 : Int32) < l1) → (x0 = y0)) ∧ (x1 = y1))) ∨ (¬ ((1 : Int32) < l1) ∧ (((0 : Int32) < l1) → (x0 = y0)))) ∧ (x2 = y2))) ∨ (¬ ((2 : Int32) < l1) ∧ ((((1 : Int32) < l1) ∧ ((((0 : Int32) < l1) → (x0 = y0)) ∧ (x1 = y1))) ∨ (¬ ((1 : Int32) < l1) ∧ (((0 : Int32) < l1) → (x0 = y0))))))) ∧ (p3 = zi73)))), .val (.int (bI ((own_cs zi67 y0 y1 y2 = own_cs l1 x0 x1 x2) ∧ (zi73 = p3))))] [])) _
      refine XS.iload X132.here hx rfl (hb hby at_290) rfl ?_
      show Steps p.tables e below (T132.setTop (mkF m 292 #[.val (.long q1), .second, .val (.long q2), .second, .val (.int p3), .val (.int p4), .val (.int p5), .val (.int l1), .val (.ref b3), .val (.ref b25), .val (.int zi67), .val (.int zi73), .val (.int (((p5.toUInt32 >>> ((9 : Int32) &&& 31).toUInt32).toInt32) &&& (3 : Int32))), .val (.ref r76), .val (.ref r81), .val (.ref b85), .val (.ref b104), .val (.ref b104), .val (.int (bI (((l1 = zi67) ∧ ((((2 : Int32) < l1) ∧ (((((1 : Int32) < l1) ∧ ((((0 : Int32) < l1) → (x0 = y0)) ∧ (x1 = y1))) ∨ (¬ ((1 : Int32) < l1) ∧ (((0 : Int32) < l1) → (x0 = y0)))) ∧ (x2 = y2))) ∨ (¬ ((2 : Int32) < l1) ∧ ((((1 : Int32) < l1) ∧ ((((0 : Int32) < l1) → (x0 = y0)) ∧ (x1 = y1))) ∨ (¬ ((1 : Int32) < l1) ∧ (((0 : Int32) < l1) → (x0 = y0))))))) ∧ (p3 = zi73)))), .val (.int (bI ((own_cs zi67 y0 y1 y2 = own_cs l1 x0 x1 x2) ∧ (zi73 = p3))))] [(.int (bI ((own_cs zi67 y0 y1 y2 = own_cs l1 x0 x1 x2) ∧ (zi73 = p3))))])) _
      refine XS.iload X132.here hx rfl (hb hby at_292) rfl ?_
      show Steps p.tables e below (T132.setTop (mkF m 294 #[.val (.long q1), .second, .val (.long q2), .second, .val (.int p3), .val (.int p4), .val (.int p5), .val (.int l1), .val (.ref b3), .val (.ref b25), .val (.int zi67), .val (.int zi73), .val (.int (((p5.toUInt32 >>> ((9 : Int32) &&& 31).toUInt32).toInt32) &&& (3 : Int32))), .val (.ref r76), .val (.ref r81), .val (.ref b85), .val (.ref b104), .val (.ref b104), .val (.int (bI (((l1 = zi67) ∧ ((((2 : Int32) < l1) ∧ (((((1 : Int32) < l1) ∧ ((((0 : Int32) < l1) → (x0 = y0)) ∧ (x1 = y1))) ∨ (¬ ((1 : Int32) < l1) ∧ (((0 : Int32) < l1) → (x0 = y0)))) ∧ (x2 = y2))) ∨ (¬ ((2 : Int32) < l1) ∧ ((((1 : Int32) < l1) ∧ ((((0 : Int32) < l1) → (x0 = y0)) ∧ (x1 = y1))) ∨ (¬ ((1 : Int32) < l1) ∧ (((0 : Int32) < l1) → (x0 = y0))))))) ∧ (p3 = zi73)))), .val (.int (bI ((own_cs zi67 y0 y1 y2 = own_cs l1 x0 x1 x2) ∧ (zi73 = p3))))] [(.int (bI (((l1 = zi67) ∧ ((((2 : Int32) < l1) ∧ (((((1 : Int32) < l1) ∧ ((((0 : Int32) < l1) → (x0 = y0)) ∧ (x1 = y1))) ∨ (¬ ((1 : Int32) < l1) ∧ (((0 : Int32) < l1) → (x0 = y0)))) ∧ (x2 = y2))) ∨ (¬ ((2 : Int32) < l1) ∧ ((((1 : Int32) < l1) ∧ ((((0 : Int32) < l1) → (x0 = y0)) ∧ (x1 = y1))) ∨ (¬ ((1 : Int32) < l1) ∧ (((0 : Int32) < l1) → (x0 = y0))))))) ∧ (p3 = zi73)))), (.int (bI ((own_cs zi67 y0 y1 y2 = own_cs l1 x0 x1 x2) ∧ (zi73 = p3))))])) _
      refine XS.icmpYes X132.here hx rfl (pc0 := 294) (pc' := 299) rfl (hb hby at_294) rfl (XT.ii_eq_t (bI_eq.mpr hk133)) (by decide) (by decide) ?_
      show Steps p.tables e below (T132.setTop (mkF m 299 #[.val (.long q1), .second, .val (.long q2), .second, .val (.int p3), .val (.int p4), .val (.int p5), .val (.int l1), .val (.ref b3), .val (.ref b25), .val (.int zi67), .val (.int zi73), .val (.int (((p5.toUInt32 >>> ((9 : Int32) &&& 31).toUInt32).toInt32) &&& (3 : Int32))), .val (.ref r76), .val (.ref r81), .val (.ref b85), .val (.ref b104), .val (.ref b104), .val (.int (bI (((l1 = zi67) ∧ ((((2 : Int32) < l1) ∧ (((((1 : Int32) < l1) ∧ ((((0 : Int32) < l1) → (x0 = y0)) ∧ (x1 = y1))) ∨ (¬ ((1 : Int32) < l1) ∧ (((0 : Int32) < l1) → (x0 = y0)))) ∧ (x2 = y2))) ∨ (¬ ((2 : Int32) < l1) ∧ ((((1 : Int32) < l1) ∧ ((((0 : Int32) < l1) → (x0 = y0)) ∧ (x1 = y1))) ∨ (¬ ((1 : Int32) < l1) ∧ (((0 : Int32) < l1) → (x0 = y0))))))) ∧ (p3 = zi73)))), .val (.int (bI ((own_cs zi67 y0 y1 y2 = own_cs l1 x0 x1 x2) ∧ (zi73 = p3))))] [])) _
      refine XS.aload X132.here hx rfl (hb hby at_299) rfl rfl ?_
      show Steps p.tables e below (T132.setTop (mkF m 301 #[.val (.long q1), .second, .val (.long q2), .second, .val (.int p3), .val (.int p4), .val (.int p5), .val (.int l1), .val (.ref b3), .val (.ref b25), .val (.int zi67), .val (.int zi73), .val (.int (((p5.toUInt32 >>> ((9 : Int32) &&& 31).toUInt32).toInt32) &&& (3 : Int32))), .val (.ref r76), .val (.ref r81), .val (.ref b85), .val (.ref b104), .val (.ref b104), .val (.int (bI (((l1 = zi67) ∧ ((((2 : Int32) < l1) ∧ (((((1 : Int32) < l1) ∧ ((((0 : Int32) < l1) → (x0 = y0)) ∧ (x1 = y1))) ∨ (¬ ((1 : Int32) < l1) ∧ (((0 : Int32) < l1) → (x0 = y0)))) ∧ (x2 = y2))) ∨ (¬ ((2 : Int32) < l1) ∧ ((((1 : Int32) < l1) ∧ ((((0 : Int32) < l1) → (x0 = y0)) ∧ (x1 = y1))) ∨ (¬ ((1 : Int32) < l1) ∧ (((0 : Int32) < l1) → (x0 = y0))))))) ∧ (p3 = zi73)))), .val (.int (bI ((own_cs zi67 y0 y1 y2 = own_cs l1 x0 x1 x2) ∧ (zi73 = p3))))] [(.ref b104)])) _
      refine XT.nullNo X132.here hx rfl (hb hby at_301) rfl rfl (by intro q; cases q) ?_
      show Steps p.tables e below (T132.setTop (mkF m 304 #[.val (.long q1), .second, .val (.long q2), .second, .val (.int p3), .val (.int p4), .val (.int p5), .val (.int l1), .val (.ref b3), .val (.ref b25), .val (.int zi67), .val (.int zi73), .val (.int (((p5.toUInt32 >>> ((9 : Int32) &&& 31).toUInt32).toInt32) &&& (3 : Int32))), .val (.ref r76), .val (.ref r81), .val (.ref b85), .val (.ref b104), .val (.ref b104), .val (.int (bI (((l1 = zi67) ∧ ((((2 : Int32) < l1) ∧ (((((1 : Int32) < l1) ∧ ((((0 : Int32) < l1) → (x0 = y0)) ∧ (x1 = y1))) ∨ (¬ ((1 : Int32) < l1) ∧ (((0 : Int32) < l1) → (x0 = y0)))) ∧ (x2 = y2))) ∨ (¬ ((2 : Int32) < l1) ∧ ((((1 : Int32) < l1) ∧ ((((0 : Int32) < l1) → (x0 = y0)) ∧ (x1 = y1))) ∨ (¬ ((1 : Int32) < l1) ∧ (((0 : Int32) < l1) → (x0 = y0))))))) ∧ (p3 = zi73)))), .val (.int (bI ((own_cs zi67 y0 y1 y2 = own_cs l1 x0 x1 x2) ∧ (zi73 = p3))))] [])) _
      refine XS.aload X132.here hx rfl (hb hby at_304) rfl rfl ?_
      show Steps p.tables e below (T132.setTop (mkF m 306 #[.val (.long q1), .second, .val (.long q2), .second, .val (.int p3), .val (.int p4), .val (.int p5), .val (.int l1), .val (.ref b3), .val (.ref b25), .val (.int zi67), .val (.int zi73), .val (.int (((p5.toUInt32 >>> ((9 : Int32) &&& 31).toUInt32).toInt32) &&& (3 : Int32))), .val (.ref r76), .val (.ref r81), .val (.ref b85), .val (.ref b104), .val (.ref b104), .val (.int (bI (((l1 = zi67) ∧ ((((2 : Int32) < l1) ∧ (((((1 : Int32) < l1) ∧ ((((0 : Int32) < l1) → (x0 = y0)) ∧ (x1 = y1))) ∨ (¬ ((1 : Int32) < l1) ∧ (((0 : Int32) < l1) → (x0 = y0)))) ∧ (x2 = y2))) ∨ (¬ ((2 : Int32) < l1) ∧ ((((1 : Int32) < l1) ∧ ((((0 : Int32) < l1) → (x0 = y0)) ∧ (x1 = y1))) ∨ (¬ ((1 : Int32) < l1) ∧ (((0 : Int32) < l1) → (x0 = y0))))))) ∧ (p3 = zi73)))), .val (.int (bI ((own_cs zi67 y0 y1 y2 = own_cs l1 x0 x1 x2) ∧ (zi73 = p3))))] [(.ref b104)])) _
      refine XS.aload X132.here hx rfl (hb hby at_306) rfl rfl ?_
      show Steps p.tables e below (T132.setTop (mkF m 308 #[.val (.long q1), .second, .val (.long q2), .second, .val (.int p3), .val (.int p4), .val (.int p5), .val (.int l1), .val (.ref b3), .val (.ref b25), .val (.int zi67), .val (.int zi73), .val (.int (((p5.toUInt32 >>> ((9 : Int32) &&& 31).toUInt32).toInt32) &&& (3 : Int32))), .val (.ref r76), .val (.ref r81), .val (.ref b85), .val (.ref b104), .val (.ref b104), .val (.int (bI (((l1 = zi67) ∧ ((((2 : Int32) < l1) ∧ (((((1 : Int32) < l1) ∧ ((((0 : Int32) < l1) → (x0 = y0)) ∧ (x1 = y1))) ∨ (¬ ((1 : Int32) < l1) ∧ (((0 : Int32) < l1) → (x0 = y0)))) ∧ (x2 = y2))) ∨ (¬ ((2 : Int32) < l1) ∧ ((((1 : Int32) < l1) ∧ ((((0 : Int32) < l1) → (x0 = y0)) ∧ (x1 = y1))) ∨ (¬ ((1 : Int32) < l1) ∧ (((0 : Int32) < l1) → (x0 = y0))))))) ∧ (p3 = zi73)))), .val (.int (bI ((own_cs zi67 y0 y1 y2 = own_cs l1 x0 x1 x2) ∧ (zi73 = p3))))] [(.ref b85), (.ref b104)])) _
      exact kk
    obtain ⟨cq135, kq135, q135a, q135b, q135c⟩ := isOf hZ hh132 E_b104
    obtain ⟨_, _, ⟨T135, L135, k135, n135⟩, -, X135, ⟨Lc135, hQ135, l135, y135, z135⟩, st135⟩ := X132.virtualBack hx (y := (⟨"com/example/postie/postie/config/Listen", "equals", "(Ljava/lang/Object;)Z"⟩ : MethodName)) (z := (⟨"com/example/postie/postie/config/Listen", "equals", "(Ljava/lang/Object;)Z"⟩ : MethodName)) hown (mvT hZ (hw _ (List.mem_of_getElem? (i := 50) rfl))) (mvT hZ (hw _ (List.mem_of_getElem? (i := 51) rfl))) (notFace_of_selects (args := #[]) (mvT hZ (hw _ (List.mem_of_getElem? (i := 53) rfl)))) (mvT hZ (hw _ (List.mem_of_getElem? (i := 53) rfl))) (mvT hZ (hw _ (List.mem_of_getElem? (i := 52) rfl))) (by decide) (backOf (W := 0) (rmE l Z a0 hw [] b104 b85 r81 t81 kk81 (own_cs zi67 y0 y1 y2) r76 t76 kk76 (own_cs l1 x0 x1 x2) (zi73) (p3) z0 T117.heap n0 Zs119 S_CS hz F_host_b104 F_port_b104 E_b85 F_host_b85 F_port_b85 E_r81 Fv_r81 Fc_r81 V_r81 E_r76 Fv_r76 Fc_r76 V_r76 (own_cs_p hpy0 hpy1 hpy2) own_cs_len (own_cs_p hpx0 hpx1 hpx2) own_cs_len) hZ (hw _ (List.mem_of_getElem? (i := 54) rfl)) (hw _ (List.mem_of_getElem? (i := 32) rfl)) (by decide) (by decide)) q135a q135c (g := (mkF m 308 #[.val (.long q1), .second, .val (.long q2), .second, .val (.int p3), .val (.int p4), .val (.int p5), .val (.int l1), .val (.ref b3), .val (.ref b25), .val (.int zi67), .val (.int zi73), .val (.int (((p5.toUInt32 >>> ((9 : Int32) &&& 31).toUInt32).toInt32) &&& (3 : Int32))), .val (.ref r76), .val (.ref r81), .val (.ref b85), .val (.ref b104), .val (.ref b104), .val (.int (bI (((l1 = zi67) ∧ ((((2 : Int32) < l1) ∧ (((((1 : Int32) < l1) ∧ ((((0 : Int32) < l1) → (x0 = y0)) ∧ (x1 = y1))) ∨ (¬ ((1 : Int32) < l1) ∧ (((0 : Int32) < l1) → (x0 = y0)))) ∧ (x2 = y2))) ∨ (¬ ((2 : Int32) < l1) ∧ ((((1 : Int32) < l1) ∧ ((((0 : Int32) < l1) → (x0 = y0)) ∧ (x1 = y1))) ∨ (¬ ((1 : Int32) < l1) ∧ (((0 : Int32) < l1) → (x0 = y0))))))) ∧ (p3 = zi73)))), .val (.int (bI ((own_cs zi67 y0 y1 y2 = own_cs l1 x0 x1 x2) ∧ (zi73 = p3))))] [(.ref b85), (.ref b104)])) rfl (by rw [hml]; rfl) (Steps.refl _) (argsL := [(.ref b85)]) (rest := []) (lenOf pd__Ljava_lang_Object__Z rfl) rfl (by show 2 * 0 + _ ≤ _; exact Nat.le_of_eq rfl) (hb hby at_308) (fun _ _ => ⟨rfl, hh132, (by decide : 20 + 0 ≤ _), (by decide : 80 + 0 ≤ _)⟩)
    dsimp only [Pt.U, Pt.locs, Pt.cells, Pt.slots] at X135 l135 y135 z135 st135 hQ135
    subst l135 y135 z135
    obtain ⟨rfl, N135q, hh135⟩ := hQ135
    have N135 := Fr.app N132 N135q
    have hk136 : ((own_cs l1 x0 x1 x2 = own_cs zi67 y0 y1 y2) ∧ (p3 = zi73)) ↔ (((l1 = zi67) ∧ ((((2 : Int32) < l1) ∧ (((((1 : Int32) < l1) ∧ ((((0 : Int32) < l1) → (x0 = y0)) ∧ (x1 = y1))) ∨ (¬ ((1 : Int32) < l1) ∧ (((0 : Int32) < l1) → (x0 = y0)))) ∧ (x2 = y2))) ∨ (¬ ((2 : Int32) < l1) ∧ ((((1 : Int32) < l1) ∧ ((((0 : Int32) < l1) → (x0 = y0)) ∧ (x1 = y1))) ∨ (¬ ((1 : Int32) < l1) ∧ (((0 : Int32) < l1) → (x0 = y0))))))) ∧ (p3 = zi73)) := own_k1 hl1 hl2
    obtain ⟨fs, hr, hrun, hended, hR⟩ := Stand.leaveW (s := s) (vm₁ := T117.vm) X135 (n := T117.heap.size) hS117 (by rw [hh135]; exact (Nat.le_refl _)) (v := some (.int (1 : Int32))) (fun h => by rw [Bd.returns] at h; cases h)
    refine ⟨_, _, pre134 _ ?_, hrun, hended, _, _, rfl, ?_, ?_, hR.1, hR.2.1, hR.2.2.1, hR.2.2.2.mono (by decide) (by decide)⟩
    · skip
      refine st135.trans ?_
      show Steps p.tables e below (T135.setTop (mkF m 311 #[.val (.long q1), .second, .val (.long q2), .second, .val (.int p3), .val (.int p4), .val (.int p5), .val (.int l1), .val (.ref b3), .val (.ref b25), .val (.int zi67), .val (.int zi73), .val (.int (((p5.toUInt32 >>> ((9 : Int32) &&& 31).toUInt32).toInt32) &&& (3 : Int32))), .val (.ref r76), .val (.ref r81), .val (.ref b85), .val (.ref b104), .val (.ref b104), .val (.int (bI (((l1 = zi67) ∧ ((((2 : Int32) < l1) ∧ (((((1 : Int32) < l1) ∧ ((((0 : Int32) < l1) → (x0 = y0)) ∧ (x1 = y1))) ∨ (¬ ((1 : Int32) < l1) ∧ (((0 : Int32) < l1) → (x0 = y0)))) ∧ (x2 = y2))) ∨ (¬ ((2 : Int32) < l1) ∧ ((((1 : Int32) < l1) ∧ ((((0 : Int32) < l1) → (x0 = y0)) ∧ (x1 = y1))) ∨ (¬ ((1 : Int32) < l1) ∧ (((0 : Int32) < l1) → (x0 = y0))))))) ∧ (p3 = zi73)))), .val (.int (bI ((own_cs zi67 y0 y1 y2 = own_cs l1 x0 x1 x2) ∧ (zi73 = p3))))] [(.int (bI ((own_cs l1 x0 x1 x2 = own_cs zi67 y0 y1 y2) ∧ (p3 = zi73))))])) _
      refine XS.iload X135.here hx rfl (hb hby at_311) rfl ?_
      show Steps p.tables e below (T135.setTop (mkF m 313 #[.val (.long q1), .second, .val (.long q2), .second, .val (.int p3), .val (.int p4), .val (.int p5), .val (.int l1), .val (.ref b3), .val (.ref b25), .val (.int zi67), .val (.int zi73), .val (.int (((p5.toUInt32 >>> ((9 : Int32) &&& 31).toUInt32).toInt32) &&& (3 : Int32))), .val (.ref r76), .val (.ref r81), .val (.ref b85), .val (.ref b104), .val (.ref b104), .val (.int (bI (((l1 = zi67) ∧ ((((2 : Int32) < l1) ∧ (((((1 : Int32) < l1) ∧ ((((0 : Int32) < l1) → (x0 = y0)) ∧ (x1 = y1))) ∨ (¬ ((1 : Int32) < l1) ∧ (((0 : Int32) < l1) → (x0 = y0)))) ∧ (x2 = y2))) ∨ (¬ ((2 : Int32) < l1) ∧ ((((1 : Int32) < l1) ∧ ((((0 : Int32) < l1) → (x0 = y0)) ∧ (x1 = y1))) ∨ (¬ ((1 : Int32) < l1) ∧ (((0 : Int32) < l1) → (x0 = y0))))))) ∧ (p3 = zi73)))), .val (.int (bI ((own_cs zi67 y0 y1 y2 = own_cs l1 x0 x1 x2) ∧ (zi73 = p3))))] [(.int (bI (((l1 = zi67) ∧ ((((2 : Int32) < l1) ∧ (((((1 : Int32) < l1) ∧ ((((0 : Int32) < l1) → (x0 = y0)) ∧ (x1 = y1))) ∨ (¬ ((1 : Int32) < l1) ∧ (((0 : Int32) < l1) → (x0 = y0)))) ∧ (x2 = y2))) ∨ (¬ ((2 : Int32) < l1) ∧ ((((1 : Int32) < l1) ∧ ((((0 : Int32) < l1) → (x0 = y0)) ∧ (x1 = y1))) ∨ (¬ ((1 : Int32) < l1) ∧ (((0 : Int32) < l1) → (x0 = y0))))))) ∧ (p3 = zi73)))), (.int (bI ((own_cs l1 x0 x1 x2 = own_cs zi67 y0 y1 y2) ∧ (p3 = zi73))))])) _
      refine XS.icmpNo X135.here hx rfl (hb hby at_313) rfl (XT.ii_ne_f (bI_eq.mpr hk136)) ?_
      show Steps p.tables e below (T135.setTop (mkF m 316 #[.val (.long q1), .second, .val (.long q2), .second, .val (.int p3), .val (.int p4), .val (.int p5), .val (.int l1), .val (.ref b3), .val (.ref b25), .val (.int zi67), .val (.int zi73), .val (.int (((p5.toUInt32 >>> ((9 : Int32) &&& 31).toUInt32).toInt32) &&& (3 : Int32))), .val (.ref r76), .val (.ref r81), .val (.ref b85), .val (.ref b104), .val (.ref b104), .val (.int (bI (((l1 = zi67) ∧ ((((2 : Int32) < l1) ∧ (((((1 : Int32) < l1) ∧ ((((0 : Int32) < l1) → (x0 = y0)) ∧ (x1 = y1))) ∨ (¬ ((1 : Int32) < l1) ∧ (((0 : Int32) < l1) → (x0 = y0)))) ∧ (x2 = y2))) ∨ (¬ ((2 : Int32) < l1) ∧ ((((1 : Int32) < l1) ∧ ((((0 : Int32) < l1) → (x0 = y0)) ∧ (x1 = y1))) ∨ (¬ ((1 : Int32) < l1) ∧ (((0 : Int32) < l1) → (x0 = y0))))))) ∧ (p3 = zi73)))), .val (.int (bI ((own_cs zi67 y0 y1 y2 = own_cs l1 x0 x1 x2) ∧ (zi73 = p3))))] [])) _
      refine XS.iconst X135.here hx rfl (hb hby at_316) ?_
      show Steps p.tables e below (T135.setTop (mkF m 317 #[.val (.long q1), .second, .val (.long q2), .second, .val (.int p3), .val (.int p4), .val (.int p5), .val (.int l1), .val (.ref b3), .val (.ref b25), .val (.int zi67), .val (.int zi73), .val (.int (((p5.toUInt32 >>> ((9 : Int32) &&& 31).toUInt32).toInt32) &&& (3 : Int32))), .val (.ref r76), .val (.ref r81), .val (.ref b85), .val (.ref b104), .val (.ref b104), .val (.int (bI (((l1 = zi67) ∧ ((((2 : Int32) < l1) ∧ (((((1 : Int32) < l1) ∧ ((((0 : Int32) < l1) → (x0 = y0)) ∧ (x1 = y1))) ∨ (¬ ((1 : Int32) < l1) ∧ (((0 : Int32) < l1) → (x0 = y0)))) ∧ (x2 = y2))) ∨ (¬ ((2 : Int32) < l1) ∧ ((((1 : Int32) < l1) ∧ ((((0 : Int32) < l1) → (x0 = y0)) ∧ (x1 = y1))) ∨ (¬ ((1 : Int32) < l1) ∧ (((0 : Int32) < l1) → (x0 = y0))))))) ∧ (p3 = zi73)))), .val (.int (bI ((own_cs zi67 y0 y1 y2 = own_cs l1 x0 x1 x2) ∧ (zi73 = p3))))] [(.int (1 : Int32))])) _
      refine XS.goto X135.here hx rfl (pc0 := 317) (pc' := 321) rfl (hb hby at_317) (by decide) (by decide) ?_
      show Steps p.tables e below (T135.setTop (mkF m 321 #[.val (.long q1), .second, .val (.long q2), .second, .val (.int p3), .val (.int p4), .val (.int p5), .val (.int l1), .val (.ref b3), .val (.ref b25), .val (.int zi67), .val (.int zi73), .val (.int (((p5.toUInt32 >>> ((9 : Int32) &&& 31).toUInt32).toInt32) &&& (3 : Int32))), .val (.ref r76), .val (.ref r81), .val (.ref b85), .val (.ref b104), .val (.ref b104), .val (.int (bI (((l1 = zi67) ∧ ((((2 : Int32) < l1) ∧ (((((1 : Int32) < l1) ∧ ((((0 : Int32) < l1) → (x0 = y0)) ∧ (x1 = y1))) ∨ (¬ ((1 : Int32) < l1) ∧ (((0 : Int32) < l1) → (x0 = y0)))) ∧ (x2 = y2))) ∨ (¬ ((2 : Int32) < l1) ∧ ((((1 : Int32) < l1) ∧ ((((0 : Int32) < l1) → (x0 = y0)) ∧ (x1 = y1))) ∨ (¬ ((1 : Int32) < l1) ∧ (((0 : Int32) < l1) → (x0 = y0))))))) ∧ (p3 = zi73)))), .val (.int (bI ((own_cs zi67 y0 y1 y2 = own_cs l1 x0 x1 x2) ∧ (zi73 = p3))))] [(.int (1 : Int32))])) _
      exact retN X135 hx (t := .boolean) Bd.returns (by simp) (hb hby at_321) hr
    · show Q0 Z q1 q2 p3 p4 p5 z0 h0 n0 _ T135.heap _
      rw [hh135]
      exact ⟨rfl, N135⟩
    · show CHr Z own_EL s.vm s.heap T135.vm T135.heap
      rw [hh, hh135]
      exact CH118.trans (CHv.at (vm0 := T117.vm) (s := s) X135 hZ hEL CH118.1)
  · skip
    have pre137 : ∀ tgt, Steps p.tables e below (T97.setTop (mkF m 246 #[.val (.long q1), .second, .val (.long q2), .second, .val (.int p3), .val (.int p4), .val (.int p5), .val (.int l1), .val (.ref b3), .val (.ref b25), .val (.int zi67), .val (.int zi73), .val (.int (((p5.toUInt32 >>> ((9 : Int32) &&& 31).toUInt32).toInt32) &&& (3 : Int32))), .val (.ref r76), .val (.ref r81), .val (.ref b85), .val .null, .unset, .unset, .unset] [(.int (1 : Int32)), (.int (((p5.toUInt32 >>> ((9 : Int32) &&& 31).toUInt32).toInt32) &&& (3 : Int32)))])) tgt → Steps p.tables e below (s₁.setTop (entryFrame m #[(.long q1), (.long q2), (.int p3), (.int p4), (.int p5)] maxLocals)) tgt := by
      intro tgt kk
      refine pre101 tgt ?_
      refine XS.ifYes X97.here hx rfl (pc0 := 192) (pc' := 243) rfl (hb hby at_192) rfl (XT.i0_ne_t hc192_102) (by decide) (by decide) ?_
      show Steps p.tables e below (T97.setTop (mkF m 243 #[.val (.long q1), .second, .val (.long q2), .second, .val (.int p3), .val (.int p4), .val (.int p5), .val (.int l1), .val (.ref b3), .val (.ref b25), .val (.int zi67), .val (.int zi73), .val (.int (((p5.toUInt32 >>> ((9 : Int32) &&& 31).toUInt32).toInt32) &&& (3 : Int32))), .val (.ref r76), .val (.ref r81), .val (.ref b85), .val .null, .unset, .unset, .unset] [])) _
      refine XS.iload X97.here hx rfl (hb hby at_243) rfl ?_
      show Steps p.tables e below (T97.setTop (mkF m 245 #[.val (.long q1), .second, .val (.long q2), .second, .val (.int p3), .val (.int p4), .val (.int p5), .val (.int l1), .val (.ref b3), .val (.ref b25), .val (.int zi67), .val (.int zi73), .val (.int (((p5.toUInt32 >>> ((9 : Int32) &&& 31).toUInt32).toInt32) &&& (3 : Int32))), .val (.ref r76), .val (.ref r81), .val (.ref b85), .val .null, .unset, .unset, .unset] [(.int (((p5.toUInt32 >>> ((9 : Int32) &&& 31).toUInt32).toInt32) &&& (3 : Int32)))])) _
      refine XS.iconst X97.here hx rfl (hb hby at_245) ?_
      show Steps p.tables e below (T97.setTop (mkF m 246 #[.val (.long q1), .second, .val (.long q2), .second, .val (.int p3), .val (.int p4), .val (.int p5), .val (.int l1), .val (.ref b3), .val (.ref b25), .val (.int zi67), .val (.int zi73), .val (.int (((p5.toUInt32 >>> ((9 : Int32) &&& 31).toUInt32).toInt32) &&& (3 : Int32))), .val (.ref r76), .val (.ref r81), .val (.ref b85), .val .null, .unset, .unset, .unset] [(.int (1 : Int32)), (.int (((p5.toUInt32 >>> ((9 : Int32) &&& 31).toUInt32).toInt32) &&& (3 : Int32)))])) _
      exact kk
    by_cases hc246_138 : (((p5.toUInt32 >>> ((9 : Int32) &&& 31).toUInt32).toInt32) &&& (3 : Int32)) = (1 : Int32)
    · skip
      have pre139 : ∀ tgt, Steps p.tables e below (T97.setTop (mkF m 285 #[.val (.long q1), .second, .val (.long q2), .second, .val (.int p3), .val (.int p4), .val (.int p5), .val (.int l1), .val (.ref b3), .val (.ref b25), .val (.int zi67), .val (.int zi73), .val (.int (((p5.toUInt32 >>> ((9 : Int32) &&& 31).toUInt32).toInt32) &&& (3 : Int32))), .val (.ref r76), .val (.ref r81), .val (.ref b85), .val .null, .val .null, .val (.int (0 : Int32)), .unset] [.null, (.ref b85)])) tgt → Steps p.tables e below (s₁.setTop (entryFrame m #[(.long q1), (.long q2), (.int p3), (.int p4), (.int p5)] maxLocals)) tgt := by
        intro tgt kk
        refine pre137 tgt ?_
        refine XS.icmpNo X97.here hx rfl (hb hby at_246) rfl (XT.ii_ne_f hc246_138) ?_
        show Steps p.tables e below (T97.setTop (mkF m 249 #[.val (.long q1), .second, .val (.long q2), .second, .val (.int p3), .val (.int p4), .val (.int p5), .val (.int l1), .val (.ref b3), .val (.ref b25), .val (.int zi67), .val (.int zi73), .val (.int (((p5.toUInt32 >>> ((9 : Int32) &&& 31).toUInt32).toInt32) &&& (3 : Int32))), .val (.ref r76), .val (.ref r81), .val (.ref b85), .val .null, .unset, .unset, .unset] [])) _
        refine XS.aconstNull X97.here hx rfl (hb hby at_249) ?_
        show Steps p.tables e below (T97.setTop (mkF m 250 #[.val (.long q1), .second, .val (.long q2), .second, .val (.int p3), .val (.int p4), .val (.int p5), .val (.int l1), .val (.ref b3), .val (.ref b25), .val (.int zi67), .val (.int zi73), .val (.int (((p5.toUInt32 >>> ((9 : Int32) &&& 31).toUInt32).toInt32) &&& (3 : Int32))), .val (.ref r76), .val (.ref r81), .val (.ref b85), .val .null, .unset, .unset, .unset] [.null])) _
        refine XS.astore X97.here hx rfl (hb hby at_250) rfl rfl (l' := #[.val (.long q1), .second, .val (.long q2), .second, .val (.int p3), .val (.int p4), .val (.int p5), .val (.int l1), .val (.ref b3), .val (.ref b25), .val (.int zi67), .val (.int zi73), .val (.int (((p5.toUInt32 >>> ((9 : Int32) &&& 31).toUInt32).toInt32) &&& (3 : Int32))), .val (.ref r76), .val (.ref r81), .val (.ref b85), .val .null, .val .null, .unset, .unset]) rfl ?_
        show Steps p.tables e below (T97.setTop (mkF m 252 #[.val (.long q1), .second, .val (.long q2), .second, .val (.int p3), .val (.int p4), .val (.int p5), .val (.int l1), .val (.ref b3), .val (.ref b25), .val (.int zi67), .val (.int zi73), .val (.int (((p5.toUInt32 >>> ((9 : Int32) &&& 31).toUInt32).toInt32) &&& (3 : Int32))), .val (.ref r76), .val (.ref r81), .val (.ref b85), .val .null, .val .null, .unset, .unset] [])) _
        refine XS.iconst X97.here hx rfl (hb hby at_252) ?_
        show Steps p.tables e below (T97.setTop (mkF m 253 #[.val (.long q1), .second, .val (.long q2), .second, .val (.int p3), .val (.int p4), .val (.int p5), .val (.int l1), .val (.ref b3), .val (.ref b25), .val (.int zi67), .val (.int zi73), .val (.int (((p5.toUInt32 >>> ((9 : Int32) &&& 31).toUInt32).toInt32) &&& (3 : Int32))), .val (.ref r76), .val (.ref r81), .val (.ref b85), .val .null, .val .null, .unset, .unset] [(.int (0 : Int32))])) _
        refine XS.istore X97.here hx rfl (hb hby at_253) rfl (l' := #[.val (.long q1), .second, .val (.long q2), .second, .val (.int p3), .val (.int p4), .val (.int p5), .val (.int l1), .val (.ref b3), .val (.ref b25), .val (.int zi67), .val (.int zi73), .val (.int (((p5.toUInt32 >>> ((9 : Int32) &&& 31).toUInt32).toInt32) &&& (3 : Int32))), .val (.ref r76), .val (.ref r81), .val (.ref b85), .val .null, .val .null, .val (.int (0 : Int32)), .unset]) rfl ?_
        show Steps p.tables e below (T97.setTop (mkF m 255 #[.val (.long q1), .second, .val (.long q2), .second, .val (.int p3), .val (.int p4), .val (.int p5), .val (.int l1), .val (.ref b3), .val (.ref b25), .val (.int zi67), .val (.int zi73), .val (.int (((p5.toUInt32 >>> ((9 : Int32) &&& 31).toUInt32).toInt32) &&& (3 : Int32))), .val (.ref r76), .val (.ref r81), .val (.ref b85), .val .null, .val .null, .val (.int (0 : Int32)), .unset] [])) _
        refine XS.goto X97.here hx rfl (pc0 := 255) (pc' := 281) rfl (hb hby at_255) (by decide) (by decide) ?_
        show Steps p.tables e below (T97.setTop (mkF m 281 #[.val (.long q1), .second, .val (.long q2), .second, .val (.int p3), .val (.int p4), .val (.int p5), .val (.int l1), .val (.ref b3), .val (.ref b25), .val (.int zi67), .val (.int zi73), .val (.int (((p5.toUInt32 >>> ((9 : Int32) &&& 31).toUInt32).toInt32) &&& (3 : Int32))), .val (.ref r76), .val (.ref r81), .val (.ref b85), .val .null, .val .null, .val (.int (0 : Int32)), .unset] [])) _
        refine XS.aload X97.here hx rfl (hb hby at_281) rfl rfl ?_
        show Steps p.tables e below (T97.setTop (mkF m 283 #[.val (.long q1), .second, .val (.long q2), .second, .val (.int p3), .val (.int p4), .val (.int p5), .val (.int l1), .val (.ref b3), .val (.ref b25), .val (.int zi67), .val (.int zi73), .val (.int (((p5.toUInt32 >>> ((9 : Int32) &&& 31).toUInt32).toInt32) &&& (3 : Int32))), .val (.ref r76), .val (.ref r81), .val (.ref b85), .val .null, .val .null, .val (.int (0 : Int32)), .unset] [(.ref b85)])) _
        refine XS.aload X97.here hx rfl (hb hby at_283) rfl rfl ?_
        show Steps p.tables e below (T97.setTop (mkF m 285 #[.val (.long q1), .second, .val (.long q2), .second, .val (.int p3), .val (.int p4), .val (.int p5), .val (.int l1), .val (.ref b3), .val (.ref b25), .val (.int zi67), .val (.int zi73), .val (.int (((p5.toUInt32 >>> ((9 : Int32) &&& 31).toUInt32).toInt32) &&& (3 : Int32))), .val (.ref r76), .val (.ref r81), .val (.ref b85), .val .null, .val .null, .val (.int (0 : Int32)), .unset] [.null, (.ref b85)])) _
        exact kk
      obtain ⟨cq140, kq140, q140a, q140b, q140c⟩ := isOf hZ rfl E_b85
      obtain ⟨_, _, ⟨T140, L140, k140, n140⟩, -, X140, ⟨Lc140, hQ140, l140, y140, z140⟩, st140⟩ := X97.virtualBack hx (y := (⟨"com/example/postie/postie/config/Listen", "equals", "(Ljava/lang/Object;)Z"⟩ : MethodName)) (z := (⟨"com/example/postie/postie/config/Listen", "equals", "(Ljava/lang/Object;)Z"⟩ : MethodName)) hown (mvT hZ (hw _ (List.mem_of_getElem? (i := 50) rfl))) (mvT hZ (hw _ (List.mem_of_getElem? (i := 51) rfl))) (notFace_of_selects (args := #[]) (mvT hZ (hw _ (List.mem_of_getElem? (i := 53) rfl)))) (mvT hZ (hw _ (List.mem_of_getElem? (i := 53) rfl))) (mvT hZ (hw _ (List.mem_of_getElem? (i := 52) rfl))) (by decide) (backOf (W := 0) (rmEN l Z a0 hw [] b85 T97.heap n0 Zs99) hZ (hw _ (List.mem_of_getElem? (i := 54) rfl)) (hw _ (List.mem_of_getElem? (i := 32) rfl)) (by decide) (by decide)) q140a q140c (g := (mkF m 285 #[.val (.long q1), .second, .val (.long q2), .second, .val (.int p3), .val (.int p4), .val (.int p5), .val (.int l1), .val (.ref b3), .val (.ref b25), .val (.int zi67), .val (.int zi73), .val (.int (((p5.toUInt32 >>> ((9 : Int32) &&& 31).toUInt32).toInt32) &&& (3 : Int32))), .val (.ref r76), .val (.ref r81), .val (.ref b85), .val .null, .val .null, .val (.int (0 : Int32)), .unset] [.null, (.ref b85)])) rfl (by rw [hml]; rfl) (Steps.refl _) (argsL := [.null]) (rest := []) (lenOf pd__Ljava_lang_Object__Z rfl) rfl (by show 2 * 0 + _ ≤ _; exact Nat.le_of_eq rfl) (hb hby at_285) (fun _ _ => ⟨rfl, rfl, (by decide : 17 + 0 ≤ _), (by decide : 58 + 0 ≤ _)⟩)
      dsimp only [Pt.U, Pt.locs, Pt.cells, Pt.slots] at X140 l140 y140 z140 st140 hQ140
      subst l140 y140 z140
      obtain ⟨rfl, N140q, hh140⟩ := hQ140
      have N140 := Fr.app N97 N140q
      obtain ⟨fs, hr, hrun, hended, hR⟩ := Stand.leaveW (s := s) (vm₁ := T97.vm) X140 (n := T97.heap.size) hS97 (by rw [hh140]; exact (Nat.le_refl _)) (v := some (.int (1 : Int32))) (fun h => by rw [Bd.returns] at h; cases h)
      refine ⟨_, _, pre139 _ ?_, hrun, hended, _, _, rfl, ?_, ?_, hR.1, hR.2.1, hR.2.2.1, hR.2.2.2.mono (by decide) (by decide)⟩
      · skip
        refine st140.trans ?_
        show Steps p.tables e below (T140.setTop (mkF m 288 #[.val (.long q1), .second, .val (.long q2), .second, .val (.int p3), .val (.int p4), .val (.int p5), .val (.int l1), .val (.ref b3), .val (.ref b25), .val (.int zi67), .val (.int zi73), .val (.int (((p5.toUInt32 >>> ((9 : Int32) &&& 31).toUInt32).toInt32) &&& (3 : Int32))), .val (.ref r76), .val (.ref r81), .val (.ref b85), .val .null, .val .null, .val (.int (0 : Int32)), .unset] [(.int (0 : Int32))])) _
        refine XS.istore X140.here hx rfl (hb hby at_288) rfl (l' := #[.val (.long q1), .second, .val (.long q2), .second, .val (.int p3), .val (.int p4), .val (.int p5), .val (.int l1), .val (.ref b3), .val (.ref b25), .val (.int zi67), .val (.int zi73), .val (.int (((p5.toUInt32 >>> ((9 : Int32) &&& 31).toUInt32).toInt32) &&& (3 : Int32))), .val (.ref r76), .val (.ref r81), .val (.ref b85), .val .null, .val .null, .val (.int (0 : Int32)), .val (.int (0 : Int32))]) rfl ?_
        show Steps p.tables e below (T140.setTop (mkF m 290 #[.val (.long q1), .second, .val (.long q2), .second, .val (.int p3), .val (.int p4), .val (.int p5), .val (.int l1), .val (.ref b3), .val (.ref b25), .val (.int zi67), .val (.int zi73), .val (.int (((p5.toUInt32 >>> ((9 : Int32) &&& 31).toUInt32).toInt32) &&& (3 : Int32))), .val (.ref r76), .val (.ref r81), .val (.ref b85), .val .null, .val .null, .val (.int (0 : Int32)), .val (.int (0 : Int32))] [])) _
        refine XS.iload X140.here hx rfl (hb hby at_290) rfl ?_
        show Steps p.tables e below (T140.setTop (mkF m 292 #[.val (.long q1), .second, .val (.long q2), .second, .val (.int p3), .val (.int p4), .val (.int p5), .val (.int l1), .val (.ref b3), .val (.ref b25), .val (.int zi67), .val (.int zi73), .val (.int (((p5.toUInt32 >>> ((9 : Int32) &&& 31).toUInt32).toInt32) &&& (3 : Int32))), .val (.ref r76), .val (.ref r81), .val (.ref b85), .val .null, .val .null, .val (.int (0 : Int32)), .val (.int (0 : Int32))] [(.int (0 : Int32))])) _
        refine XS.iload X140.here hx rfl (hb hby at_292) rfl ?_
        show Steps p.tables e below (T140.setTop (mkF m 294 #[.val (.long q1), .second, .val (.long q2), .second, .val (.int p3), .val (.int p4), .val (.int p5), .val (.int l1), .val (.ref b3), .val (.ref b25), .val (.int zi67), .val (.int zi73), .val (.int (((p5.toUInt32 >>> ((9 : Int32) &&& 31).toUInt32).toInt32) &&& (3 : Int32))), .val (.ref r76), .val (.ref r81), .val (.ref b85), .val .null, .val .null, .val (.int (0 : Int32)), .val (.int (0 : Int32))] [(.int (0 : Int32)), (.int (0 : Int32))])) _
        refine XS.icmpYes X140.here hx rfl (pc0 := 294) (pc' := 299) rfl (hb hby at_294) rfl (XT.ii_eq_t (by decide)) (by decide) (by decide) ?_
        show Steps p.tables e below (T140.setTop (mkF m 299 #[.val (.long q1), .second, .val (.long q2), .second, .val (.int p3), .val (.int p4), .val (.int p5), .val (.int l1), .val (.ref b3), .val (.ref b25), .val (.int zi67), .val (.int zi73), .val (.int (((p5.toUInt32 >>> ((9 : Int32) &&& 31).toUInt32).toInt32) &&& (3 : Int32))), .val (.ref r76), .val (.ref r81), .val (.ref b85), .val .null, .val .null, .val (.int (0 : Int32)), .val (.int (0 : Int32))] [])) _
        refine XS.aload X140.here hx rfl (hb hby at_299) rfl rfl ?_
        show Steps p.tables e below (T140.setTop (mkF m 301 #[.val (.long q1), .second, .val (.long q2), .second, .val (.int p3), .val (.int p4), .val (.int p5), .val (.int l1), .val (.ref b3), .val (.ref b25), .val (.int zi67), .val (.int zi73), .val (.int (((p5.toUInt32 >>> ((9 : Int32) &&& 31).toUInt32).toInt32) &&& (3 : Int32))), .val (.ref r76), .val (.ref r81), .val (.ref b85), .val .null, .val .null, .val (.int (0 : Int32)), .val (.int (0 : Int32))] [.null])) _
        refine XT.nullYes X140.here hx rfl (pc0 := 301) (pc' := 322) rfl (hb hby at_301) rfl rfl (by decide) (by decide) ?_
        show Steps p.tables e below (T140.setTop (mkF m 322 #[.val (.long q1), .second, .val (.long q2), .second, .val (.int p3), .val (.int p4), .val (.int p5), .val (.int l1), .val (.ref b3), .val (.ref b25), .val (.int zi67), .val (.int zi73), .val (.int (((p5.toUInt32 >>> ((9 : Int32) &&& 31).toUInt32).toInt32) &&& (3 : Int32))), .val (.ref r76), .val (.ref r81), .val (.ref b85), .val .null, .val .null, .val (.int (0 : Int32)), .val (.int (0 : Int32))] [])) _
        refine XS.iconst X140.here hx rfl (hb hby at_322) ?_
        show Steps p.tables e below (T140.setTop (mkF m 323 #[.val (.long q1), .second, .val (.long q2), .second, .val (.int p3), .val (.int p4), .val (.int p5), .val (.int l1), .val (.ref b3), .val (.ref b25), .val (.int zi67), .val (.int zi73), .val (.int (((p5.toUInt32 >>> ((9 : Int32) &&& 31).toUInt32).toInt32) &&& (3 : Int32))), .val (.ref r76), .val (.ref r81), .val (.ref b85), .val .null, .val .null, .val (.int (0 : Int32)), .val (.int (0 : Int32))] [(.int (1 : Int32))])) _
        exact retN X140 hx (t := .boolean) Bd.returns (by simp) (hb hby at_323) hr
      · show Q0 Z q1 q2 p3 p4 p5 z0 h0 n0 _ T140.heap _
        rw [hh140]
        exact ⟨rfl, N140⟩
      · show CHr Z own_EL s.vm s.heap T140.vm T140.heap
        rw [hh, hh140]
        exact CH98.trans (CHv.at (vm0 := T97.vm) (s := s) X140 hZ hEL CH98.1)
    · skip
      have pre141 : ∀ tgt, Steps p.tables e below (T97.setTop (mkF m 261 #[.val (.long q1), .second, .val (.long q2), .second, .val (.int p3), .val (.int p4), .val (.int p5), .val (.int l1), .val (.ref b3), .val (.ref b25), .val (.int zi67), .val (.int zi73), .val (.int (((p5.toUInt32 >>> ((9 : Int32) &&& 31).toUInt32).toInt32) &&& (3 : Int32))), .val (.ref r76), .val (.ref r81), .val (.ref b85), .val .null, .unset, .unset, .unset] [(.int (2 : Int32)), (.int (((p5.toUInt32 >>> ((9 : Int32) &&& 31).toUInt32).toInt32) &&& (3 : Int32)))])) tgt → Steps p.tables e below (s₁.setTop (entryFrame m #[(.long q1), (.long q2), (.int p3), (.int p4), (.int p5)] maxLocals)) tgt := by
        intro tgt kk
        refine pre137 tgt ?_
        refine XS.icmpYes X97.here hx rfl (pc0 := 246) (pc' := 258) rfl (hb hby at_246) rfl (XT.ii_ne_t hc246_138) (by decide) (by decide) ?_
        show Steps p.tables e below (T97.setTop (mkF m 258 #[.val (.long q1), .second, .val (.long q2), .second, .val (.int p3), .val (.int p4), .val (.int p5), .val (.int l1), .val (.ref b3), .val (.ref b25), .val (.int zi67), .val (.int zi73), .val (.int (((p5.toUInt32 >>> ((9 : Int32) &&& 31).toUInt32).toInt32) &&& (3 : Int32))), .val (.ref r76), .val (.ref r81), .val (.ref b85), .val .null, .unset, .unset, .unset] [])) _
        refine XS.iload X97.here hx rfl (hb hby at_258) rfl ?_
        show Steps p.tables e below (T97.setTop (mkF m 260 #[.val (.long q1), .second, .val (.long q2), .second, .val (.int p3), .val (.int p4), .val (.int p5), .val (.int l1), .val (.ref b3), .val (.ref b25), .val (.int zi67), .val (.int zi73), .val (.int (((p5.toUInt32 >>> ((9 : Int32) &&& 31).toUInt32).toInt32) &&& (3 : Int32))), .val (.ref r76), .val (.ref r81), .val (.ref b85), .val .null, .unset, .unset, .unset] [(.int (((p5.toUInt32 >>> ((9 : Int32) &&& 31).toUInt32).toInt32) &&& (3 : Int32)))])) _
        refine XS.iconst X97.here hx rfl (hb hby at_260) ?_
        show Steps p.tables e below (T97.setTop (mkF m 261 #[.val (.long q1), .second, .val (.long q2), .second, .val (.int p3), .val (.int p4), .val (.int p5), .val (.int l1), .val (.ref b3), .val (.ref b25), .val (.int zi67), .val (.int zi73), .val (.int (((p5.toUInt32 >>> ((9 : Int32) &&& 31).toUInt32).toInt32) &&& (3 : Int32))), .val (.ref r76), .val (.ref r81), .val (.ref b85), .val .null, .unset, .unset, .unset] [(.int (2 : Int32)), (.int (((p5.toUInt32 >>> ((9 : Int32) &&& 31).toUInt32).toInt32) &&& (3 : Int32)))])) _
        exact kk
      by_cases hc261_142 : (((p5.toUInt32 >>> ((9 : Int32) &&& 31).toUInt32).toInt32) &&& (3 : Int32)) = (2 : Int32)
      · skip
        have pre143 : ∀ tgt, Steps p.tables e below (T97.setTop (mkF m 285 #[.val (.long q1), .second, .val (.long q2), .second, .val (.int p3), .val (.int p4), .val (.int p5), .val (.int l1), .val (.ref b3), .val (.ref b25), .val (.int zi67), .val (.int zi73), .val (.int (((p5.toUInt32 >>> ((9 : Int32) &&& 31).toUInt32).toInt32) &&& (3 : Int32))), .val (.ref r76), .val (.ref r81), .val (.ref b85), .val .null, .val (.ref r76), .val (.int (0 : Int32)), .unset] [(.ref r76), (.ref b85)])) tgt → Steps p.tables e below (s₁.setTop (entryFrame m #[(.long q1), (.long q2), (.int p3), (.int p4), (.int p5)] maxLocals)) tgt := by
          intro tgt kk
          refine pre141 tgt ?_
          refine XS.icmpNo X97.here hx rfl (hb hby at_261) rfl (XT.ii_ne_f hc261_142) ?_
          show Steps p.tables e below (T97.setTop (mkF m 264 #[.val (.long q1), .second, .val (.long q2), .second, .val (.int p3), .val (.int p4), .val (.int p5), .val (.int l1), .val (.ref b3), .val (.ref b25), .val (.int zi67), .val (.int zi73), .val (.int (((p5.toUInt32 >>> ((9 : Int32) &&& 31).toUInt32).toInt32) &&& (3 : Int32))), .val (.ref r76), .val (.ref r81), .val (.ref b85), .val .null, .unset, .unset, .unset] [])) _
          refine XS.aload X97.here hx rfl (hb hby at_264) rfl rfl ?_
          show Steps p.tables e below (T97.setTop (mkF m 266 #[.val (.long q1), .second, .val (.long q2), .second, .val (.int p3), .val (.int p4), .val (.int p5), .val (.int l1), .val (.ref b3), .val (.ref b25), .val (.int zi67), .val (.int zi73), .val (.int (((p5.toUInt32 >>> ((9 : Int32) &&& 31).toUInt32).toInt32) &&& (3 : Int32))), .val (.ref r76), .val (.ref r81), .val (.ref b85), .val .null, .unset, .unset, .unset] [(.ref r76)])) _
          refine XS.astore X97.here hx rfl (hb hby at_266) rfl rfl (l' := #[.val (.long q1), .second, .val (.long q2), .second, .val (.int p3), .val (.int p4), .val (.int p5), .val (.int l1), .val (.ref b3), .val (.ref b25), .val (.int zi67), .val (.int zi73), .val (.int (((p5.toUInt32 >>> ((9 : Int32) &&& 31).toUInt32).toInt32) &&& (3 : Int32))), .val (.ref r76), .val (.ref r81), .val (.ref b85), .val .null, .val (.ref r76), .unset, .unset]) rfl ?_
          show Steps p.tables e below (T97.setTop (mkF m 268 #[.val (.long q1), .second, .val (.long q2), .second, .val (.int p3), .val (.int p4), .val (.int p5), .val (.int l1), .val (.ref b3), .val (.ref b25), .val (.int zi67), .val (.int zi73), .val (.int (((p5.toUInt32 >>> ((9 : Int32) &&& 31).toUInt32).toInt32) &&& (3 : Int32))), .val (.ref r76), .val (.ref r81), .val (.ref b85), .val .null, .val (.ref r76), .unset, .unset] [])) _
          refine XS.iconst X97.here hx rfl (hb hby at_268) ?_
          show Steps p.tables e below (T97.setTop (mkF m 269 #[.val (.long q1), .second, .val (.long q2), .second, .val (.int p3), .val (.int p4), .val (.int p5), .val (.int l1), .val (.ref b3), .val (.ref b25), .val (.int zi67), .val (.int zi73), .val (.int (((p5.toUInt32 >>> ((9 : Int32) &&& 31).toUInt32).toInt32) &&& (3 : Int32))), .val (.ref r76), .val (.ref r81), .val (.ref b85), .val .null, .val (.ref r76), .unset, .unset] [(.int (0 : Int32))])) _
          refine XS.istore X97.here hx rfl (hb hby at_269) rfl (l' := #[.val (.long q1), .second, .val (.long q2), .second, .val (.int p3), .val (.int p4), .val (.int p5), .val (.int l1), .val (.ref b3), .val (.ref b25), .val (.int zi67), .val (.int zi73), .val (.int (((p5.toUInt32 >>> ((9 : Int32) &&& 31).toUInt32).toInt32) &&& (3 : Int32))), .val (.ref r76), .val (.ref r81), .val (.ref b85), .val .null, .val (.ref r76), .val (.int (0 : Int32)), .unset]) rfl ?_
          show Steps p.tables e below (T97.setTop (mkF m 271 #[.val (.long q1), .second, .val (.long q2), .second, .val (.int p3), .val (.int p4), .val (.int p5), .val (.int l1), .val (.ref b3), .val (.ref b25), .val (.int zi67), .val (.int zi73), .val (.int (((p5.toUInt32 >>> ((9 : Int32) &&& 31).toUInt32).toInt32) &&& (3 : Int32))), .val (.ref r76), .val (.ref r81), .val (.ref b85), .val .null, .val (.ref r76), .val (.int (0 : Int32)), .unset] [])) _
          refine XS.goto X97.here hx rfl (pc0 := 271) (pc' := 281) rfl (hb hby at_271) (by decide) (by decide) ?_
          show Steps p.tables e below (T97.setTop (mkF m 281 #[.val (.long q1), .second, .val (.long q2), .second, .val (.int p3), .val (.int p4), .val (.int p5), .val (.int l1), .val (.ref b3), .val (.ref b25), .val (.int zi67), .val (.int zi73), .val (.int (((p5.toUInt32 >>> ((9 : Int32) &&& 31).toUInt32).toInt32) &&& (3 : Int32))), .val (.ref r76), .val (.ref r81), .val (.ref b85), .val .null, .val (.ref r76), .val (.int (0 : Int32)), .unset] [])) _
          refine XS.aload X97.here hx rfl (hb hby at_281) rfl rfl ?_
          show Steps p.tables e below (T97.setTop (mkF m 283 #[.val (.long q1), .second, .val (.long q2), .second, .val (.int p3), .val (.int p4), .val (.int p5), .val (.int l1), .val (.ref b3), .val (.ref b25), .val (.int zi67), .val (.int zi73), .val (.int (((p5.toUInt32 >>> ((9 : Int32) &&& 31).toUInt32).toInt32) &&& (3 : Int32))), .val (.ref r76), .val (.ref r81), .val (.ref b85), .val .null, .val (.ref r76), .val (.int (0 : Int32)), .unset] [(.ref b85)])) _
          refine XS.aload X97.here hx rfl (hb hby at_283) rfl rfl ?_
          show Steps p.tables e below (T97.setTop (mkF m 285 #[.val (.long q1), .second, .val (.long q2), .second, .val (.int p3), .val (.int p4), .val (.int p5), .val (.int l1), .val (.ref b3), .val (.ref b25), .val (.int zi67), .val (.int zi73), .val (.int (((p5.toUInt32 >>> ((9 : Int32) &&& 31).toUInt32).toInt32) &&& (3 : Int32))), .val (.ref r76), .val (.ref r81), .val (.ref b85), .val .null, .val (.ref r76), .val (.int (0 : Int32)), .unset] [(.ref r76), (.ref b85)])) _
          exact kk
        obtain ⟨cq144, kq144, q144a, q144b, q144c⟩ := isOf hZ rfl E_b85
        obtain ⟨_, _, ⟨T144, L144, k144, n144⟩, -, X144, ⟨Lc144, hQ144, l144, y144, z144⟩, st144⟩ := X97.virtualBack hx (y := (⟨"com/example/postie/postie/config/Listen", "equals", "(Ljava/lang/Object;)Z"⟩ : MethodName)) (z := (⟨"com/example/postie/postie/config/Listen", "equals", "(Ljava/lang/Object;)Z"⟩ : MethodName)) hown (mvT hZ (hw _ (List.mem_of_getElem? (i := 50) rfl))) (mvT hZ (hw _ (List.mem_of_getElem? (i := 51) rfl))) (notFace_of_selects (args := #[]) (mvT hZ (hw _ (List.mem_of_getElem? (i := 53) rfl)))) (mvT hZ (hw _ (List.mem_of_getElem? (i := 53) rfl))) (mvT hZ (hw _ (List.mem_of_getElem? (i := 52) rfl))) (by decide) (backOf (W := 0) (rmES l Z a0 hw [] b85 r76 T97.heap n0 Zs99 E_r76) hZ (hw _ (List.mem_of_getElem? (i := 54) rfl)) (hw _ (List.mem_of_getElem? (i := 32) rfl)) (by decide) (by decide)) q144a q144c (g := (mkF m 285 #[.val (.long q1), .second, .val (.long q2), .second, .val (.int p3), .val (.int p4), .val (.int p5), .val (.int l1), .val (.ref b3), .val (.ref b25), .val (.int zi67), .val (.int zi73), .val (.int (((p5.toUInt32 >>> ((9 : Int32) &&& 31).toUInt32).toInt32) &&& (3 : Int32))), .val (.ref r76), .val (.ref r81), .val (.ref b85), .val .null, .val (.ref r76), .val (.int (0 : Int32)), .unset] [(.ref r76), (.ref b85)])) rfl (by rw [hml]; rfl) (Steps.refl _) (argsL := [(.ref r76)]) (rest := []) (lenOf pd__Ljava_lang_Object__Z rfl) rfl (by show 2 * 0 + _ ≤ _; exact Nat.le_of_eq rfl) (hb hby at_285) (fun _ _ => ⟨rfl, rfl, (by decide : 17 + 0 ≤ _), (by decide : 58 + 0 ≤ _)⟩)
        dsimp only [Pt.U, Pt.locs, Pt.cells, Pt.slots] at X144 l144 y144 z144 st144 hQ144
        subst l144 y144 z144
        obtain ⟨rfl, N144q, hh144⟩ := hQ144
        have N144 := Fr.app N97 N144q
        obtain ⟨fs, hr, hrun, hended, hR⟩ := Stand.leaveW (s := s) (vm₁ := T97.vm) X144 (n := T97.heap.size) hS97 (by rw [hh144]; exact (Nat.le_refl _)) (v := some (.int (1 : Int32))) (fun h => by rw [Bd.returns] at h; cases h)
        refine ⟨_, _, pre143 _ ?_, hrun, hended, _, _, rfl, ?_, ?_, hR.1, hR.2.1, hR.2.2.1, hR.2.2.2.mono (by decide) (by decide)⟩
        · skip
          refine st144.trans ?_
          show Steps p.tables e below (T144.setTop (mkF m 288 #[.val (.long q1), .second, .val (.long q2), .second, .val (.int p3), .val (.int p4), .val (.int p5), .val (.int l1), .val (.ref b3), .val (.ref b25), .val (.int zi67), .val (.int zi73), .val (.int (((p5.toUInt32 >>> ((9 : Int32) &&& 31).toUInt32).toInt32) &&& (3 : Int32))), .val (.ref r76), .val (.ref r81), .val (.ref b85), .val .null, .val (.ref r76), .val (.int (0 : Int32)), .unset] [(.int (0 : Int32))])) _
          refine XS.istore X144.here hx rfl (hb hby at_288) rfl (l' := #[.val (.long q1), .second, .val (.long q2), .second, .val (.int p3), .val (.int p4), .val (.int p5), .val (.int l1), .val (.ref b3), .val (.ref b25), .val (.int zi67), .val (.int zi73), .val (.int (((p5.toUInt32 >>> ((9 : Int32) &&& 31).toUInt32).toInt32) &&& (3 : Int32))), .val (.ref r76), .val (.ref r81), .val (.ref b85), .val .null, .val (.ref r76), .val (.int (0 : Int32)), .val (.int (0 : Int32))]) rfl ?_
          show Steps p.tables e below (T144.setTop (mkF m 290 #[.val (.long q1), .second, .val (.long q2), .second, .val (.int p3), .val (.int p4), .val (.int p5), .val (.int l1), .val (.ref b3), .val (.ref b25), .val (.int zi67), .val (.int zi73), .val (.int (((p5.toUInt32 >>> ((9 : Int32) &&& 31).toUInt32).toInt32) &&& (3 : Int32))), .val (.ref r76), .val (.ref r81), .val (.ref b85), .val .null, .val (.ref r76), .val (.int (0 : Int32)), .val (.int (0 : Int32))] [])) _
          refine XS.iload X144.here hx rfl (hb hby at_290) rfl ?_
          show Steps p.tables e below (T144.setTop (mkF m 292 #[.val (.long q1), .second, .val (.long q2), .second, .val (.int p3), .val (.int p4), .val (.int p5), .val (.int l1), .val (.ref b3), .val (.ref b25), .val (.int zi67), .val (.int zi73), .val (.int (((p5.toUInt32 >>> ((9 : Int32) &&& 31).toUInt32).toInt32) &&& (3 : Int32))), .val (.ref r76), .val (.ref r81), .val (.ref b85), .val .null, .val (.ref r76), .val (.int (0 : Int32)), .val (.int (0 : Int32))] [(.int (0 : Int32))])) _
          refine XS.iload X144.here hx rfl (hb hby at_292) rfl ?_
          show Steps p.tables e below (T144.setTop (mkF m 294 #[.val (.long q1), .second, .val (.long q2), .second, .val (.int p3), .val (.int p4), .val (.int p5), .val (.int l1), .val (.ref b3), .val (.ref b25), .val (.int zi67), .val (.int zi73), .val (.int (((p5.toUInt32 >>> ((9 : Int32) &&& 31).toUInt32).toInt32) &&& (3 : Int32))), .val (.ref r76), .val (.ref r81), .val (.ref b85), .val .null, .val (.ref r76), .val (.int (0 : Int32)), .val (.int (0 : Int32))] [(.int (0 : Int32)), (.int (0 : Int32))])) _
          refine XS.icmpYes X144.here hx rfl (pc0 := 294) (pc' := 299) rfl (hb hby at_294) rfl (XT.ii_eq_t (by decide)) (by decide) (by decide) ?_
          show Steps p.tables e below (T144.setTop (mkF m 299 #[.val (.long q1), .second, .val (.long q2), .second, .val (.int p3), .val (.int p4), .val (.int p5), .val (.int l1), .val (.ref b3), .val (.ref b25), .val (.int zi67), .val (.int zi73), .val (.int (((p5.toUInt32 >>> ((9 : Int32) &&& 31).toUInt32).toInt32) &&& (3 : Int32))), .val (.ref r76), .val (.ref r81), .val (.ref b85), .val .null, .val (.ref r76), .val (.int (0 : Int32)), .val (.int (0 : Int32))] [])) _
          refine XS.aload X144.here hx rfl (hb hby at_299) rfl rfl ?_
          show Steps p.tables e below (T144.setTop (mkF m 301 #[.val (.long q1), .second, .val (.long q2), .second, .val (.int p3), .val (.int p4), .val (.int p5), .val (.int l1), .val (.ref b3), .val (.ref b25), .val (.int zi67), .val (.int zi73), .val (.int (((p5.toUInt32 >>> ((9 : Int32) &&& 31).toUInt32).toInt32) &&& (3 : Int32))), .val (.ref r76), .val (.ref r81), .val (.ref b85), .val .null, .val (.ref r76), .val (.int (0 : Int32)), .val (.int (0 : Int32))] [.null])) _
          refine XT.nullYes X144.here hx rfl (pc0 := 301) (pc' := 322) rfl (hb hby at_301) rfl rfl (by decide) (by decide) ?_
          show Steps p.tables e below (T144.setTop (mkF m 322 #[.val (.long q1), .second, .val (.long q2), .second, .val (.int p3), .val (.int p4), .val (.int p5), .val (.int l1), .val (.ref b3), .val (.ref b25), .val (.int zi67), .val (.int zi73), .val (.int (((p5.toUInt32 >>> ((9 : Int32) &&& 31).toUInt32).toInt32) &&& (3 : Int32))), .val (.ref r76), .val (.ref r81), .val (.ref b85), .val .null, .val (.ref r76), .val (.int (0 : Int32)), .val (.int (0 : Int32))] [])) _
          refine XS.iconst X144.here hx rfl (hb hby at_322) ?_
          show Steps p.tables e below (T144.setTop (mkF m 323 #[.val (.long q1), .second, .val (.long q2), .second, .val (.int p3), .val (.int p4), .val (.int p5), .val (.int l1), .val (.ref b3), .val (.ref b25), .val (.int zi67), .val (.int zi73), .val (.int (((p5.toUInt32 >>> ((9 : Int32) &&& 31).toUInt32).toInt32) &&& (3 : Int32))), .val (.ref r76), .val (.ref r81), .val (.ref b85), .val .null, .val (.ref r76), .val (.int (0 : Int32)), .val (.int (0 : Int32))] [(.int (1 : Int32))])) _
          exact retN X144 hx (t := .boolean) Bd.returns (by simp) (hb hby at_323) hr
        · show Q0 Z q1 q2 p3 p4 p5 z0 h0 n0 _ T144.heap _
          rw [hh144]
          exact ⟨rfl, N144⟩
        · show CHr Z own_EL s.vm s.heap T144.vm T144.heap
          rw [hh, hh144]
          exact CH98.trans (CHv.at (vm0 := T97.vm) (s := s) X144 hZ hEL CH98.1)
      · skip
        have pre145 : ∀ tgt, Steps p.tables e below (T97.setTop (mkF m 285 #[.val (.long q1), .second, .val (.long q2), .second, .val (.int p3), .val (.int p4), .val (.int p5), .val (.int l1), .val (.ref b3), .val (.ref b25), .val (.int zi67), .val (.int zi73), .val (.int (((p5.toUInt32 >>> ((9 : Int32) &&& 31).toUInt32).toInt32) &&& (3 : Int32))), .val (.ref r76), .val (.ref r81), .val (.ref b85), .val .null, .val (.ref b85), .val (.int (1 : Int32)), .unset] [(.ref b85), (.ref b85)])) tgt → Steps p.tables e below (s₁.setTop (entryFrame m #[(.long q1), (.long q2), (.int p3), (.int p4), (.int p5)] maxLocals)) tgt := by
          intro tgt kk
          refine pre141 tgt ?_
          refine XS.icmpYes X97.here hx rfl (pc0 := 261) (pc' := 274) rfl (hb hby at_261) rfl (XT.ii_ne_t hc261_142) (by decide) (by decide) ?_
          show Steps p.tables e below (T97.setTop (mkF m 274 #[.val (.long q1), .second, .val (.long q2), .second, .val (.int p3), .val (.int p4), .val (.int p5), .val (.int l1), .val (.ref b3), .val (.ref b25), .val (.int zi67), .val (.int zi73), .val (.int (((p5.toUInt32 >>> ((9 : Int32) &&& 31).toUInt32).toInt32) &&& (3 : Int32))), .val (.ref r76), .val (.ref r81), .val (.ref b85), .val .null, .unset, .unset, .unset] [])) _
          refine XS.aload X97.here hx rfl (hb hby at_274) rfl rfl ?_
          show Steps p.tables e below (T97.setTop (mkF m 276 #[.val (.long q1), .second, .val (.long q2), .second, .val (.int p3), .val (.int p4), .val (.int p5), .val (.int l1), .val (.ref b3), .val (.ref b25), .val (.int zi67), .val (.int zi73), .val (.int (((p5.toUInt32 >>> ((9 : Int32) &&& 31).toUInt32).toInt32) &&& (3 : Int32))), .val (.ref r76), .val (.ref r81), .val (.ref b85), .val .null, .unset, .unset, .unset] [(.ref b85)])) _
          refine XS.astore X97.here hx rfl (hb hby at_276) rfl rfl (l' := #[.val (.long q1), .second, .val (.long q2), .second, .val (.int p3), .val (.int p4), .val (.int p5), .val (.int l1), .val (.ref b3), .val (.ref b25), .val (.int zi67), .val (.int zi73), .val (.int (((p5.toUInt32 >>> ((9 : Int32) &&& 31).toUInt32).toInt32) &&& (3 : Int32))), .val (.ref r76), .val (.ref r81), .val (.ref b85), .val .null, .val (.ref b85), .unset, .unset]) rfl ?_
          show Steps p.tables e below (T97.setTop (mkF m 278 #[.val (.long q1), .second, .val (.long q2), .second, .val (.int p3), .val (.int p4), .val (.int p5), .val (.int l1), .val (.ref b3), .val (.ref b25), .val (.int zi67), .val (.int zi73), .val (.int (((p5.toUInt32 >>> ((9 : Int32) &&& 31).toUInt32).toInt32) &&& (3 : Int32))), .val (.ref r76), .val (.ref r81), .val (.ref b85), .val .null, .val (.ref b85), .unset, .unset] [])) _
          refine XS.iconst X97.here hx rfl (hb hby at_278) ?_
          show Steps p.tables e below (T97.setTop (mkF m 279 #[.val (.long q1), .second, .val (.long q2), .second, .val (.int p3), .val (.int p4), .val (.int p5), .val (.int l1), .val (.ref b3), .val (.ref b25), .val (.int zi67), .val (.int zi73), .val (.int (((p5.toUInt32 >>> ((9 : Int32) &&& 31).toUInt32).toInt32) &&& (3 : Int32))), .val (.ref r76), .val (.ref r81), .val (.ref b85), .val .null, .val (.ref b85), .unset, .unset] [(.int (1 : Int32))])) _
          refine XS.istore X97.here hx rfl (hb hby at_279) rfl (l' := #[.val (.long q1), .second, .val (.long q2), .second, .val (.int p3), .val (.int p4), .val (.int p5), .val (.int l1), .val (.ref b3), .val (.ref b25), .val (.int zi67), .val (.int zi73), .val (.int (((p5.toUInt32 >>> ((9 : Int32) &&& 31).toUInt32).toInt32) &&& (3 : Int32))), .val (.ref r76), .val (.ref r81), .val (.ref b85), .val .null, .val (.ref b85), .val (.int (1 : Int32)), .unset]) rfl ?_
          show Steps p.tables e below (T97.setTop (mkF m 281 #[.val (.long q1), .second, .val (.long q2), .second, .val (.int p3), .val (.int p4), .val (.int p5), .val (.int l1), .val (.ref b3), .val (.ref b25), .val (.int zi67), .val (.int zi73), .val (.int (((p5.toUInt32 >>> ((9 : Int32) &&& 31).toUInt32).toInt32) &&& (3 : Int32))), .val (.ref r76), .val (.ref r81), .val (.ref b85), .val .null, .val (.ref b85), .val (.int (1 : Int32)), .unset] [])) _
          refine XS.aload X97.here hx rfl (hb hby at_281) rfl rfl ?_
          show Steps p.tables e below (T97.setTop (mkF m 283 #[.val (.long q1), .second, .val (.long q2), .second, .val (.int p3), .val (.int p4), .val (.int p5), .val (.int l1), .val (.ref b3), .val (.ref b25), .val (.int zi67), .val (.int zi73), .val (.int (((p5.toUInt32 >>> ((9 : Int32) &&& 31).toUInt32).toInt32) &&& (3 : Int32))), .val (.ref r76), .val (.ref r81), .val (.ref b85), .val .null, .val (.ref b85), .val (.int (1 : Int32)), .unset] [(.ref b85)])) _
          refine XS.aload X97.here hx rfl (hb hby at_283) rfl rfl ?_
          show Steps p.tables e below (T97.setTop (mkF m 285 #[.val (.long q1), .second, .val (.long q2), .second, .val (.int p3), .val (.int p4), .val (.int p5), .val (.int l1), .val (.ref b3), .val (.ref b25), .val (.int zi67), .val (.int zi73), .val (.int (((p5.toUInt32 >>> ((9 : Int32) &&& 31).toUInt32).toInt32) &&& (3 : Int32))), .val (.ref r76), .val (.ref r81), .val (.ref b85), .val .null, .val (.ref b85), .val (.int (1 : Int32)), .unset] [(.ref b85), (.ref b85)])) _
          exact kk
        obtain ⟨cq146, kq146, q146a, q146b, q146c⟩ := isOf hZ rfl E_b85
        obtain ⟨_, _, ⟨T146, L146, k146, n146⟩, -, X146, ⟨Lc146, hQ146, l146, y146, z146⟩, st146⟩ := X97.virtualBack hx (y := (⟨"com/example/postie/postie/config/Listen", "equals", "(Ljava/lang/Object;)Z"⟩ : MethodName)) (z := (⟨"com/example/postie/postie/config/Listen", "equals", "(Ljava/lang/Object;)Z"⟩ : MethodName)) hown (mvT hZ (hw _ (List.mem_of_getElem? (i := 50) rfl))) (mvT hZ (hw _ (List.mem_of_getElem? (i := 51) rfl))) (notFace_of_selects (args := #[]) (mvT hZ (hw _ (List.mem_of_getElem? (i := 53) rfl)))) (mvT hZ (hw _ (List.mem_of_getElem? (i := 53) rfl))) (mvT hZ (hw _ (List.mem_of_getElem? (i := 52) rfl))) (by decide) (backOf (W := 0) (rmE l Z a0 hw [] b85 b85 r76 t76 kk76 (own_cs l1 x0 x1 x2) r76 t76 kk76 (own_cs l1 x0 x1 x2) (p3) (p3) z0 T97.heap n0 Zs99 S_CS hz F_host_b85 F_port_b85 E_b85 F_host_b85 F_port_b85 E_r76 Fv_r76 Fc_r76 V_r76 E_r76 Fv_r76 Fc_r76 V_r76 (own_cs_p hpx0 hpx1 hpx2) own_cs_len (own_cs_p hpx0 hpx1 hpx2) own_cs_len) hZ (hw _ (List.mem_of_getElem? (i := 54) rfl)) (hw _ (List.mem_of_getElem? (i := 32) rfl)) (by decide) (by decide)) q146a q146c (g := (mkF m 285 #[.val (.long q1), .second, .val (.long q2), .second, .val (.int p3), .val (.int p4), .val (.int p5), .val (.int l1), .val (.ref b3), .val (.ref b25), .val (.int zi67), .val (.int zi73), .val (.int (((p5.toUInt32 >>> ((9 : Int32) &&& 31).toUInt32).toInt32) &&& (3 : Int32))), .val (.ref r76), .val (.ref r81), .val (.ref b85), .val .null, .val (.ref b85), .val (.int (1 : Int32)), .unset] [(.ref b85), (.ref b85)])) rfl (by rw [hml]; rfl) (Steps.refl _) (argsL := [(.ref b85)]) (rest := []) (lenOf pd__Ljava_lang_Object__Z rfl) rfl (by show 2 * 0 + _ ≤ _; exact Nat.le_of_eq rfl) (hb hby at_285) (fun _ _ => ⟨rfl, rfl, (by decide : 17 + 0 ≤ _), (by decide : 58 + 0 ≤ _)⟩)
        dsimp only [Pt.U, Pt.locs, Pt.cells, Pt.slots] at X146 l146 y146 z146 st146 hQ146
        subst l146 y146 z146
        obtain ⟨rfl, N146q, hh146⟩ := hQ146
        have N146 := Fr.app N97 N146q
        have hk147 : (own_cs l1 x0 x1 x2 = own_cs l1 x0 x1 x2) ∧ (p3 = p3) := ⟨rfl, rfl⟩
        obtain ⟨fs, hr, hrun, hended, hR⟩ := Stand.leaveW (s := s) (vm₁ := T97.vm) X146 (n := T97.heap.size) hS97 (by rw [hh146]; exact (Nat.le_refl _)) (v := some (.int (1 : Int32))) (fun h => by rw [Bd.returns] at h; cases h)
        refine ⟨_, _, pre145 _ ?_, hrun, hended, _, _, rfl, ?_, ?_, hR.1, hR.2.1, hR.2.2.1, hR.2.2.2.mono (by decide) (by decide)⟩
        · skip
          refine st146.trans ?_
          show Steps p.tables e below (T146.setTop (mkF m 288 #[.val (.long q1), .second, .val (.long q2), .second, .val (.int p3), .val (.int p4), .val (.int p5), .val (.int l1), .val (.ref b3), .val (.ref b25), .val (.int zi67), .val (.int zi73), .val (.int (((p5.toUInt32 >>> ((9 : Int32) &&& 31).toUInt32).toInt32) &&& (3 : Int32))), .val (.ref r76), .val (.ref r81), .val (.ref b85), .val .null, .val (.ref b85), .val (.int (1 : Int32)), .unset] [(.int (bI ((own_cs l1 x0 x1 x2 = own_cs l1 x0 x1 x2) ∧ (p3 = p3))))])) _
          refine XS.istore X146.here hx rfl (hb hby at_288) rfl (l' := #[.val (.long q1), .second, .val (.long q2), .second, .val (.int p3), .val (.int p4), .val (.int p5), .val (.int l1), .val (.ref b3), .val (.ref b25), .val (.int zi67), .val (.int zi73), .val (.int (((p5.toUInt32 >>> ((9 : Int32) &&& 31).toUInt32).toInt32) &&& (3 : Int32))), .val (.ref r76), .val (.ref r81), .val (.ref b85), .val .null, .val (.ref b85), .val (.int (1 : Int32)), .val (.int (bI ((own_cs l1 x0 x1 x2 = own_cs l1 x0 x1 x2) ∧ (p3 = p3))))]) rfl ?_
          show Steps p.tables e below (T146.setTop (mkF m 290 #[.val (.long q1), .second, .val (.long q2), .second, .val (.int p3), .val (.int p4), .val (.int p5), .val (.int l1), .val (.ref b3), .val (.ref b25), .val (.int zi67), .val (.int zi73), .val (.int (((p5.toUInt32 >>> ((9 : Int32) &&& 31).toUInt32).toInt32) &&& (3 : Int32))), .val (.ref r76), .val (.ref r81), .val (.ref b85), .val .null, .val (.ref b85), .val (.int (1 : Int32)), .val (.int (bI ((own_cs l1 x0 x1 x2 = own_cs l1 x0 x1 x2) ∧ (p3 = p3))))] [])) _
          refine XS.iload X146.here hx rfl (hb hby at_290) rfl ?_
          show Steps p.tables e below (T146.setTop (mkF m 292 #[.val (.long q1), .second, .val (.long q2), .second, .val (.int p3), .val (.int p4), .val (.int p5), .val (.int l1), .val (.ref b3), .val (.ref b25), .val (.int zi67), .val (.int zi73), .val (.int (((p5.toUInt32 >>> ((9 : Int32) &&& 31).toUInt32).toInt32) &&& (3 : Int32))), .val (.ref r76), .val (.ref r81), .val (.ref b85), .val .null, .val (.ref b85), .val (.int (1 : Int32)), .val (.int (bI ((own_cs l1 x0 x1 x2 = own_cs l1 x0 x1 x2) ∧ (p3 = p3))))] [(.int (bI ((own_cs l1 x0 x1 x2 = own_cs l1 x0 x1 x2) ∧ (p3 = p3))))])) _
          refine XS.iload X146.here hx rfl (hb hby at_292) rfl ?_
          show Steps p.tables e below (T146.setTop (mkF m 294 #[.val (.long q1), .second, .val (.long q2), .second, .val (.int p3), .val (.int p4), .val (.int p5), .val (.int l1), .val (.ref b3), .val (.ref b25), .val (.int zi67), .val (.int zi73), .val (.int (((p5.toUInt32 >>> ((9 : Int32) &&& 31).toUInt32).toInt32) &&& (3 : Int32))), .val (.ref r76), .val (.ref r81), .val (.ref b85), .val .null, .val (.ref b85), .val (.int (1 : Int32)), .val (.int (bI ((own_cs l1 x0 x1 x2 = own_cs l1 x0 x1 x2) ∧ (p3 = p3))))] [(.int (1 : Int32)), (.int (bI ((own_cs l1 x0 x1 x2 = own_cs l1 x0 x1 x2) ∧ (p3 = p3))))])) _
          refine XS.icmpYes X146.here hx rfl (pc0 := 294) (pc' := 299) rfl (hb hby at_294) rfl (XT.ii_eq_t (bI_eq1.mpr hk147)) (by decide) (by decide) ?_
          show Steps p.tables e below (T146.setTop (mkF m 299 #[.val (.long q1), .second, .val (.long q2), .second, .val (.int p3), .val (.int p4), .val (.int p5), .val (.int l1), .val (.ref b3), .val (.ref b25), .val (.int zi67), .val (.int zi73), .val (.int (((p5.toUInt32 >>> ((9 : Int32) &&& 31).toUInt32).toInt32) &&& (3 : Int32))), .val (.ref r76), .val (.ref r81), .val (.ref b85), .val .null, .val (.ref b85), .val (.int (1 : Int32)), .val (.int (bI ((own_cs l1 x0 x1 x2 = own_cs l1 x0 x1 x2) ∧ (p3 = p3))))] [])) _
          refine XS.aload X146.here hx rfl (hb hby at_299) rfl rfl ?_
          show Steps p.tables e below (T146.setTop (mkF m 301 #[.val (.long q1), .second, .val (.long q2), .second, .val (.int p3), .val (.int p4), .val (.int p5), .val (.int l1), .val (.ref b3), .val (.ref b25), .val (.int zi67), .val (.int zi73), .val (.int (((p5.toUInt32 >>> ((9 : Int32) &&& 31).toUInt32).toInt32) &&& (3 : Int32))), .val (.ref r76), .val (.ref r81), .val (.ref b85), .val .null, .val (.ref b85), .val (.int (1 : Int32)), .val (.int (bI ((own_cs l1 x0 x1 x2 = own_cs l1 x0 x1 x2) ∧ (p3 = p3))))] [.null])) _
          refine XT.nullYes X146.here hx rfl (pc0 := 301) (pc' := 322) rfl (hb hby at_301) rfl rfl (by decide) (by decide) ?_
          show Steps p.tables e below (T146.setTop (mkF m 322 #[.val (.long q1), .second, .val (.long q2), .second, .val (.int p3), .val (.int p4), .val (.int p5), .val (.int l1), .val (.ref b3), .val (.ref b25), .val (.int zi67), .val (.int zi73), .val (.int (((p5.toUInt32 >>> ((9 : Int32) &&& 31).toUInt32).toInt32) &&& (3 : Int32))), .val (.ref r76), .val (.ref r81), .val (.ref b85), .val .null, .val (.ref b85), .val (.int (1 : Int32)), .val (.int (bI ((own_cs l1 x0 x1 x2 = own_cs l1 x0 x1 x2) ∧ (p3 = p3))))] [])) _
          refine XS.iconst X146.here hx rfl (hb hby at_322) ?_
          show Steps p.tables e below (T146.setTop (mkF m 323 #[.val (.long q1), .second, .val (.long q2), .second, .val (.int p3), .val (.int p4), .val (.int p5), .val (.int l1), .val (.ref b3), .val (.ref b25), .val (.int zi67), .val (.int zi73), .val (.int (((p5.toUInt32 >>> ((9 : Int32) &&& 31).toUInt32).toInt32) &&& (3 : Int32))), .val (.ref r76), .val (.ref r81), .val (.ref b85), .val .null, .val (.ref b85), .val (.int (1 : Int32)), .val (.int (bI ((own_cs l1 x0 x1 x2 = own_cs l1 x0 x1 x2) ∧ (p3 = p3))))] [(.int (1 : Int32))])) _
          exact retN X146 hx (t := .boolean) Bd.returns (by simp) (hb hby at_323) hr
        · show Q0 Z q1 q2 p3 p4 p5 z0 h0 n0 _ T146.heap _
          rw [hh146]
          exact ⟨rfl, N146⟩
        · show CHr Z own_EL s.vm s.heap T146.vm T146.heap
          rw [hh, hh146]
          exact CH98.trans (CHv.at (vm0 := T97.vm) (s := s) X146 hZ hEL CH98.1)
set_option maxRecDepth 65536 in
set_option maxHeartbeats 40000000 in
theorem comes_1 {Post : Tables → Env → Array Value → State → Outcome → State → Prop} (hpost : ∀ tb e args s v u, (limb_1_1.after args s (.returned v) u = true ∧ limb_1_2.after args s (.returned v) u = true ∧ True) → ReturnedEndW s (.returned v) u (Jvm.fieldLocs frame_1_writes args s ++ Jvm.arrayLocs frame_1_arrays args s ++ Jvm.staticLocs frame_1_statics s) 32 2240 → Post tb e args s (.returned v) u) :
    ArmFor flags0 classFile x code maxLocals ret World_1 tables_1 room_1 Calls_1 rest_1 Pre_1 Post := by
  intro l hfl _ _ p e ha hc hk s m args below hf hA hF happ hP
  obtain ⟨hcalls, hrest, hpre⟩ := hP
  obtain ⟨-, -, -, hnamed, -, -, -, hat⟩ := (Spec.applies_iff hf).mp happ
  obtain ⟨hg, hn⟩ := and_e (Cond.before_iff.mp (show (Jvm.Cond.and given_1 narrow_1).before args s = true from hpre))
  obtain ⟨hcount, g0⟩ := and_e hg
  obtain ⟨ga0, g1⟩ := and_e g0
  obtain ⟨ga1, g2⟩ := and_e g1
  obtain ⟨ga2, g3⟩ := and_e g2
  obtain ⟨ga3, g4⟩ := and_e g3
  have ga4 := g4
  obtain ⟨w0, w1, w2, w3, w4, rfl⟩ : ∃ w0 w1 w2 w3 w4 : Value, args = #[w0, w1, w2, w3, w4] := by
    have hs : args.size = 5 := by simpa [Cond.value, given_1] using hcount
    obtain ⟨L⟩ := args
    match L, hs with
    | [w0, w1, w2, w3, w4], _ => exact ⟨w0, w1, w2, w3, w4, rfl⟩
  have hw := fun d (hd : d ∈ tables_1) => atoms_spec (ws := Jvm.Cond.code x code maxLocals ret :: tables_1) hat d (List.mem_cons_of_mem _ hd)
  have hfit : Fit s := fun {y c} hc i hi => by
    obtain ⟨ha, rfl⟩ := Array.getElem?_eq_some_iff.mp hc
    have q := List.all_eq_true.mp ((Array.all_eq_true_iff_forall_mem.mp hF) _ (Array.getElem_mem ha)) i (List.mem_range.mpr hi)
    simpa [Array.getElem?_eq_getElem hi] using q
  obtain ⟨i0, ei0⟩ := isL_v ga0
  obtain rfl : w0 = (.long i0) := Option.some.inj ei0
  obtain ⟨i1, ei1⟩ := isL_v ga1
  obtain rfl : w1 = (.long i1) := Option.some.inj ei1
  obtain ⟨i2, ei2⟩ := is_v ga2
  obtain rfl : w2 = (.int i2) := Option.some.inj ei2
  obtain ⟨i3, ei3⟩ := is_v ga3
  obtain rfl : w3 = (.int i3) := Option.some.inj ei3
  obtain ⟨i4, ei4⟩ := is_v ga4
  obtain rfl : w4 = (.int i4) := Option.some.inj ei4
  obtain ⟨hsets, hown0⟩ := atoms_of _ (rest_1_c_eq ▸ (show rest_1_c.before _ s = true from hrest))
  obtain ⟨z0, evz⟩ := is_v (Cond.before_iff.mp (hsets _ (List.mem_of_getElem? (i := 1) rfl)))
  have S_CS : Sta s s.heap "java/lang/String" "COMPACT_STRINGS" "Z" (.int z0) := Sta.start evz (Or.inl (hsets _ (List.mem_of_getElem? (i := 0) rfl)))
  have hz : ¬ z0 = 0 := own_neI evz (Cond.before_iff.mp (hsets _ (List.mem_of_getElem? (i := 2) rfl)))
  have hheld : ∀ p ∈ own_EL, Jvm.Lit.constHeld s p.1 p.2 := fun p hp => hcalls.1 p ((by decide +kernel : ∀ p ∈ own_EL, p ∈ consts_1) p hp)
  have hCv : CHv s own_EL s.vm s.heap := CHv.start (own_EW hw) hheld (hsets _ (List.mem_of_getElem? (i := 2) rfl)) (hw _ (List.mem_of_getElem? (i := 23) rfl)) (hw _ (List.mem_of_getElem? (i := 10) rfl))
  obtain ⟨n, o, h1, h2, h3, _, L, rfl, ⟨rfl, N⟩, -, hq⟩ := rm0 l s _ hw tables_1 i0 i1 i2 i3 i4 z0 s.heap s.heap.size (Nat.le_refl _) S_CS hz p e ha hc hk s m _ below hf ((Spec.applies_iff_loose hf).mp happ).1 ⟨rfl, State.Warmed39.refl s, rfl, hCv⟩ trivial
  refine ⟨n, _, h1, h2, h3, hpost _ _ _ _ _ _ ⟨Cond.after_iff.mpr rfl, Cond.after_iff.mpr (eq_i res_at (Term.int_eval (1)) rfl), trivial⟩ ⟨hq.1, hq.2.1, hq.2.2.1, (hq.2.2.2.sift fun y hy => Or.inr (N y hy)).mono (by decide) (by decide)⟩⟩
theorem main_1_1 : Claimed_1_1 := comes_1 fun _ _ _ _ _ _ h hF => ⟨h.1, hF⟩
theorem main_1_2 : Claimed_1_2 := comes_1 fun _ _ _ _ _ _ h hF => ⟨h.2.1, hF⟩
end Jvm.Pilot.@@N@@
namespace Jvm.Pilot.@@N@@
open Jvm Jvm.ClassFile Sem Op Lib Jvm.Free Jvm.Stand Jvm.Pilot.@@N@@.Jvm.D
/-! MADE BY PROGRAM (witnessworld.py) out of the Statement's table words and the real class files: 21 classes; the members and pool entries that the words name. The judged class is class 1, her method 4. -/
namespace start1
open Jvm.ClassFile
def u (s : String) : CpInfo := .utf8 (stringToUtf16 s)
/-- a pool by its gaps: so many unusable entries, then the entry; so many at the end -/
def gap : Nat → List CpInfo → List CpInfo
  | 0, r => r
  | n + 1, r => .unusable :: gap n r
def poolList (es : List (Nat × CpInfo)) (last : Nat) : List CpInfo := es.foldr (fun e r => gap e.1 (e.2 :: r)) (gap last [])
def pool (es : List (Nat × CpInfo)) (last : Nat) : Array CpInfo := ⟨poolList es last⟩
def fileOf (pool : Array CpInfo) (this : Nat) (attrs : Array Attribute := #[]) (ms : Array MethodInfo := #[]) (fl : Nat := 33) (sup : Nat := 0) (ifs : Array Nat := #[]) (fds : Array FieldInfo := #[]) : ClassFile where
  minorVersion := 0
  majorVersion := 65
  constantPool := pool
  accessFlags := fl
  thisClass := this
  superClass := sup
  interfaces := ifs
  fields := fds
  methods := ms
  attributes := attrs
def plain (name : String) (sup : Option ClassId) : Class where
  name := name
  kind := .ordinary
  loader := none
  accessFlags := 33
  super := sup
  interfaces := #[]
  cf := none
  fields := #[]
  methods := #[]
  instanceTypes := #[]
  staticTypes := #[]
  resolved := #[]
  callSites := []
  init := .initialized
  statics := none
  mirror := none

def pool0 : Array CpInfo := pool [(5, u "<init>"), (0, u "()V"), (1, .class_ 10), (1, u "java/lang/Object")] 113

def k0c0 : Code := { maxStack := 0, maxLocals := 1, code := object_method_1_code, exceptionTable := #[], attributes := #[] }
def k0m0 : Method := { name := "<init>", desc := "()V", sig := { parameters := [], returnType := none }, accessFlags := 1, code := some k0c0 }
/-- java/lang/Object -/
def k0 : Class := { plain "java/lang/Object" none with
  accessFlags := 33
  interfaces := #[]
  cf := some (fileOf pool0 8 #[] #[{ accessFlags := 1, nameIndex := 5, descriptorIndex := 6, attributes := #[] }] 33 0 #[] #[])
  fields := #[]
  methods := #[k0m0]
  instanceTypes := #[]
  staticTypes := #[]
  resolved := Array.replicate 124 none
  statics := none }

def pool1 : Array CpInfo := pool [(2, .class_ 4), (1, u "java/lang/Object"), (0, u "<init>"), (0, u "()V"), (0, .class_ 8), (0, u "java/lang/String"), (0, .methodref 7 10), (0, .nameAndType 5 11), (0, u "([C)V"), (0, .long 255), (1, .methodref 15 16), (0, .class_ 17), (0, .nameAndType 18 19), (0, u "com/example/postie/postie/config/ListenEqualsPinLaw"), (0, u "pick"), (0, u "(IICJI)C"), (0, .methodref 15 21), (0, .nameAndType 22 23), (0, u "make"), (0, u "([CI)Ljava/lang/String;"), (0, .class_ 25), (0, u "com/example/postie/postie/config/Listen"), (0, .methodref 24 27), (0, .nameAndType 5 28), (0, u "(Ljava/lang/String;I)V"), (0, .methodref 15 30), (0, .nameAndType 31 32), (0, u "sameChars"), (0, u "([CI[CI)Z"), (0, .methodref 24 34), (0, .nameAndType 35 36), (0, u "equals"), (0, u "(Ljava/lang/Object;)Z"), (3, u "law"), (0, u "(JJIII)Z")] 4

def k1m0 : Method := { name := "<init>", desc := "()V", sig := { parameters := [], returnType := none }, accessFlags := 1, code := none }
def k1c1 : Code := { maxStack := 7, maxLocals := 2, code := method_2_code, exceptionTable := #[], attributes := #[] }
def k1m1 : Method := { name := "make", desc := "([CI)Ljava/lang/String;", sig := { parameters := [(.array .char), .int], returnType := some (.object "java/lang/String") }, accessFlags := 10, code := some k1c1 }
def k1c2 : Code := { maxStack := 3, maxLocals := 5, code := method_3_code, exceptionTable := #[], attributes := #[] }
def k1m2 : Method := { name := "sameChars", desc := "([CI[CI)Z", sig := { parameters := [(.array .char), .int, (.array .char), .int], returnType := some .boolean }, accessFlags := 10, code := some k1c2 }
def k1c3 : Code := { maxStack := 4, maxLocals := 6, code := method_4_code, exceptionTable := #[], attributes := #[] }
def k1m3 : Method := { name := "pick", desc := "(IICJI)C", sig := { parameters := [.int, .int, .char, .long, .int], returnType := some .char }, accessFlags := 10, code := some k1c3 }
def k1c4 : Code := { maxStack := 8, maxLocals := 20, code := code, exceptionTable := #[], attributes := #[] }
def k1m4 : Method := { name := "law", desc := "(JJIII)Z", sig := { parameters := [.long, .long, .int, .int, .int], returnType := some .boolean }, accessFlags := 9, code := some k1c4 }
/-- com/example/postie/postie/config/ListenEqualsPinLaw -/
def k1 : Class := { plain "com/example/postie/postie/config/ListenEqualsPinLaw" (some 0) with
  accessFlags := 49
  interfaces := #[]
  cf := some (fileOf pool1 15 #[] #[{ accessFlags := 1, nameIndex := 5, descriptorIndex := 6, attributes := #[] }, { accessFlags := 10, nameIndex := 22, descriptorIndex := 23, attributes := #[] }, { accessFlags := 10, nameIndex := 31, descriptorIndex := 32, attributes := #[] }, { accessFlags := 10, nameIndex := 18, descriptorIndex := 19, attributes := #[] }, { accessFlags := 9, nameIndex := 40, descriptorIndex := 41, attributes := #[] }] 49 2 #[] #[])
  fields := #[]
  methods := #[k1m0, k1m1, k1m2, k1m3, k1m4]
  instanceTypes := #[]
  staticTypes := #[]
  resolved := Array.replicate 46 none
  statics := none }

def pool2 : Array CpInfo := pool [(1, .class_ 2), (0, u "java/io/Serializable"), (0, .class_ 4), (0, u "java/lang/Object")] 2

/-- java/io/Serializable -/
def k2 : Class := { plain "java/io/Serializable" (some 0) with
  accessFlags := 1537
  interfaces := #[]
  cf := some (fileOf pool2 1 #[] #[] 1537 3 #[] #[])
  fields := #[]
  methods := #[]
  instanceTypes := #[]
  staticTypes := #[]
  resolved := Array.replicate 7 none
  statics := none }

def pool3 : Array CpInfo := pool [(1, .class_ 2), (0, u "java/lang/Comparable"), (0, .class_ 4), (0, u "java/lang/Object")] 7

/-- java/lang/Comparable -/
def k3 : Class := { plain "java/lang/Comparable" (some 0) with
  accessFlags := 1537
  interfaces := #[]
  cf := some (fileOf pool3 1 #[] #[] 1537 3 #[] #[])
  fields := #[]
  methods := #[]
  instanceTypes := #[]
  staticTypes := #[]
  resolved := Array.replicate 12 none
  statics := none }

def pool4 : Array CpInfo := pool [(2, .class_ 4), (1, u "java/lang/CharSequence"), (42, .class_ 48), (0, u "java/lang/CharSequence$1CodePointIterator"), (10, .class_ 60), (0, u "java/lang/CharSequence$1CharIterator"), (5, .class_ 67), (0, u "java/lang/Object")] 63

/-- java/lang/CharSequence -/
def k4 : Class := { plain "java/lang/CharSequence" (some 0) with
  accessFlags := 1537
  interfaces := #[]
  cf := some (fileOf pool4 2 #[.nestMembers #[47, 59]] #[] 1537 66 #[] #[])
  fields := #[]
  methods := #[]
  instanceTypes := #[]
  staticTypes := #[]
  resolved := Array.replicate 131 none
  statics := none }

def pool5 : Array CpInfo := pool [(1, .class_ 2), (0, u "java/lang/constant/Constable"), (0, .class_ 4), (0, u "java/lang/Object")] 6

/-- java/lang/constant/Constable -/
def k5 : Class := { plain "java/lang/constant/Constable" (some 0) with
  accessFlags := 1537
  interfaces := #[]
  cf := some (fileOf pool5 1 #[] #[] 1537 3 #[] #[])
  fields := #[]
  methods := #[]
  instanceTypes := #[]
  staticTypes := #[]
  resolved := Array.replicate 11 none
  statics := none }

def pool6 : Array CpInfo := pool [(1, .class_ 2), (0, u "java/lang/constant/ConstantDesc"), (0, .class_ 4), (0, u "java/lang/Object")] 32

/-- java/lang/constant/ConstantDesc -/
def k6 : Class := { plain "java/lang/constant/ConstantDesc" (some 0) with
  accessFlags := 1537
  interfaces := #[]
  cf := some (fileOf pool6 1 #[] #[] 1537 3 #[] #[])
  fields := #[]
  methods := #[]
  instanceTypes := #[]
  staticTypes := #[]
  resolved := Array.replicate 37 none
  statics := none }

def pool7 : Array CpInfo := pool [(1, .methodref 2 3), (0, .class_ 4), (0, .nameAndType 5 6), (0, u "java/lang/Object"), (0, u "<init>"), (0, u "()V"), (0, .string 8), (0, u ""), (0, .fieldref 10 11), (0, .class_ 12), (0, .nameAndType 13 14), (0, u "java/lang/String"), (0, u "value"), (0, u "[B"), (0, .fieldref 10 16), (0, .nameAndType 17 18), (0, u "coder"), (0, u "B"), (2, u "hash"), (0, u "I"), (2, u "hashIsZero"), (0, u "Z"), (0, .methodref 10 28), (0, .nameAndType 5 29), (0, u "([CIILjava/lang/Void;)V"), (8, .fieldref 10 39), (0, .nameAndType 40 26), (0, u "COMPACT_STRINGS"), (1, .class_ 44), (1, u "java/lang/StringUTF16"), (0, u "compress"), (1, .methodref 42 48), (0, .nameAndType 49 50), (0, u "coderFromArrayLen"), (0, u "([BI)B"), (56, .class_ 109), (1, u "java/lang/StringLatin1"), (67, .methodref 42 178), (0, .nameAndType 45 179), (0, u "([CII)[B"), (361, .methodref 107 542), (0, .nameAndType 543 544), (0, u "equals"), (0, u "([B[B)Z"), (28, u "(Ljava/lang/Object;)Z"), (1, .class_ 576), (0, u "java/lang/CharSequence"), (22, u "CASE_INSENSITIVE_ORDER"), (0, u "Ljava/util/Comparator;"), (409, u "([C)V"), (90, u "serialPersistentFields"), (0, u "[Ljava/io/ObjectStreamField;"), (0, .class_ 1104), (0, u "java/lang/String$CaseInsensitiveComparator"), (1, .class_ 1107), (0, u "java/io/Serializable"), (0, .class_ 1109), (0, u "java/lang/Comparable"), (0, .class_ 1111), (0, u "java/lang/constant/Constable"), (0, .class_ 1113), (0, u "java/lang/constant/ConstantDesc"), (2, u "serialVersionUID"), (0, u "J"), (3, u "REPL"), (0, u "C"), (2, u "LATIN1"), (1, u "UTF16")] 323

def k7m0 : Method := { name := "<init>", desc := "()V", sig := { parameters := [], returnType := none }, accessFlags := 1, code := none }
def k7c1 : Code := { maxStack := 5, maxLocals := 2, code := jdk_42_method_3_code, exceptionTable := #[], attributes := #[] }
def k7m1 : Method := { name := "<init>", desc := "([C)V", sig := { parameters := [(.array .char)], returnType := none }, accessFlags := 1, code := some k7c1 }
def k7c2 : Code := { maxStack := 2, maxLocals := 3, code := jdk_42_method_66_code, exceptionTable := #[], attributes := #[] }
def k7m2 : Method := { name := "equals", desc := "(Ljava/lang/Object;)Z", sig := { parameters := [(.object "java/lang/Object")], returnType := some .boolean }, accessFlags := 1, code := some k7c2 }
def k7c3 : Code := { maxStack := 4, maxLocals := 6, code := jdk_42_method_149_code, exceptionTable := #[], attributes := #[] }
def k7m3 : Method := { name := "<init>", desc := "([CIILjava/lang/Void;)V", sig := { parameters := [(.array .char), .int, .int, (.object "java/lang/Void")], returnType := none }, accessFlags := 2, code := some k7c3 }
/-- java/lang/String -/
def k7 : Class := { plain "java/lang/String" (some 0) with
  accessFlags := 49
  interfaces := #[2, 3, 4, 5, 6]
  cf := some (fileOf pool7 10 #[.nestMembers #[1103]] #[{ accessFlags := 1, nameIndex := 5, descriptorIndex := 6, attributes := #[] }, { accessFlags := 1, nameIndex := 5, descriptorIndex := 1010, attributes := #[] }, { accessFlags := 1, nameIndex := 543, descriptorIndex := 573, attributes := #[] }, { accessFlags := 2, nameIndex := 5, descriptorIndex := 29, attributes := #[] }] 49 2 #[1106, 1108, 575, 1110, 1112] #[{ accessFlags := 18, nameIndex := 13, descriptorIndex := 14, attributes := #[] }, { accessFlags := 18, nameIndex := 17, descriptorIndex := 18, attributes := #[] }, { accessFlags := 2, nameIndex := 21, descriptorIndex := 22, attributes := #[] }, { accessFlags := 2, nameIndex := 25, descriptorIndex := 26, attributes := #[] }, { accessFlags := 26, nameIndex := 1116, descriptorIndex := 1117, attributes := #[] }, { accessFlags := 24, nameIndex := 40, descriptorIndex := 26, attributes := #[] }, { accessFlags := 26, nameIndex := 1101, descriptorIndex := 1102, attributes := #[] }, { accessFlags := 26, nameIndex := 1121, descriptorIndex := 1122, attributes := #[] }, { accessFlags := 25, nameIndex := 599, descriptorIndex := 600, attributes := #[] }, { accessFlags := 24, nameIndex := 1125, descriptorIndex := 18, attributes := #[] }, { accessFlags := 24, nameIndex := 1127, descriptorIndex := 18, attributes := #[] }])
  fields := #[{ name := "value", type := (.array .byte), accessFlags := 18, slot := 0, constantValue := 0 }, { name := "coder", type := .byte, accessFlags := 18, slot := 1, constantValue := 0 }, { name := "hash", type := .int, accessFlags := 2, slot := 2, constantValue := 0 }, { name := "hashIsZero", type := .boolean, accessFlags := 2, slot := 3, constantValue := 0 }, { name := "serialVersionUID", type := .long, accessFlags := 26, slot := 0, constantValue := 0 }, { name := "COMPACT_STRINGS", type := .boolean, accessFlags := 24, slot := 1, constantValue := 0 }, { name := "serialPersistentFields", type := (.array (.object "java/io/ObjectStreamField")), accessFlags := 26, slot := 2, constantValue := 0 }, { name := "REPL", type := .char, accessFlags := 26, slot := 3, constantValue := 0 }, { name := "CASE_INSENSITIVE_ORDER", type := (.object "java/util/Comparator"), accessFlags := 25, slot := 4, constantValue := 0 }, { name := "LATIN1", type := .byte, accessFlags := 24, slot := 5, constantValue := 0 }, { name := "UTF16", type := .byte, accessFlags := 24, slot := 6, constantValue := 0 }]
  methods := #[k7m0, k7m1, k7m2, k7m3]
  instanceTypes := #[(.array .byte), .byte, .int, .boolean]
  staticTypes := #[.long, .boolean, (.array (.object "java/io/ObjectStreamField")), .char, (.object "java/util/Comparator"), .byte, .byte]
  resolved := Array.replicate 1451 none
  statics := some 0 }

def pool8 : Array CpInfo := pool [(1, .methodref 2 3), (0, .class_ 4), (0, .nameAndType 5 6), (0, u "java/lang/Object"), (0, u "<init>"), (0, u "()V"), (0, .string 8), (0, u "host"), (0, .methodref 10 11), (0, .class_ 12), (0, .nameAndType 13 14), (0, u "java/util/Objects"), (0, u "requireNonNull"), (0, u "(Ljava/lang/Object;Ljava/lang/String;)Ljava/lang/Object;"), (0, .class_ 16), (0, u "java/lang/String"), (0, .fieldref 18 19), (0, .class_ 20), (0, .nameAndType 8 21), (0, u "com/example/postie/postie/config/Listen"), (0, u "Ljava/lang/String;"), (0, .fieldref 18 23), (0, .nameAndType 24 25), (0, u "port"), (0, u "I"), (0, .methodref 15 27), (0, .nameAndType 28 29), (0, u "equals"), (0, u "(Ljava/lang/Object;)Z"), (23, u "(Ljava/lang/String;I)V")] 26

def k8c0 : Code := { maxStack := 3, maxLocals := 3, code := prog_10_method_1_code, exceptionTable := #[], attributes := #[] }
def k8m0 : Method := { name := "<init>", desc := "(Ljava/lang/String;I)V", sig := { parameters := [(.object "java/lang/String"), .int], returnType := none }, accessFlags := 1, code := some k8c0 }
def k8c1 : Code := { maxStack := 2, maxLocals := 2, code := prog_10_method_4_code, exceptionTable := #[], attributes := #[] }
def k8m1 : Method := { name := "equals", desc := "(Ljava/lang/Object;)Z", sig := { parameters := [(.object "java/lang/Object")], returnType := some .boolean }, accessFlags := 1, code := some k8c1 }
/-- com/example/postie/postie/config/Listen -/
def k8 : Class := { plain "com/example/postie/postie/config/Listen" (some 0) with
  accessFlags := 49
  interfaces := #[]
  cf := some (fileOf pool8 18 #[] #[{ accessFlags := 1, nameIndex := 5, descriptorIndex := 53, attributes := #[] }, { accessFlags := 1, nameIndex := 28, descriptorIndex := 29, attributes := #[] }] 49 2 #[] #[{ accessFlags := 18, nameIndex := 8, descriptorIndex := 21, attributes := #[] }, { accessFlags := 18, nameIndex := 24, descriptorIndex := 25, attributes := #[] }])
  fields := #[{ name := "host", type := (.object "java/lang/String"), accessFlags := 18, slot := 0, constantValue := 0 }, { name := "port", type := .int, accessFlags := 18, slot := 1, constantValue := 0 }]
  methods := #[k8m0, k8m1]
  instanceTypes := #[(.object "java/lang/String"), .int]
  staticTypes := #[]
  resolved := Array.replicate 80 none
  statics := none }

def pool9 : Array CpInfo := pool [(2, .class_ 4), (1, u "java/lang/Object"), (0, u "<init>"), (0, u "()V"), (35, .class_ 44), (1, u "java/util/Objects"), (0, u "requireNonNull"), (48, u "(Ljava/lang/Object;Ljava/lang/String;)Ljava/lang/Object;")] 89

def k9m0 : Method := { name := "<init>", desc := "()V", sig := { parameters := [], returnType := none }, accessFlags := 2, code := none }
def k9c1 : Code := { maxStack := 3, maxLocals := 2, code := jdk_31_method_11_code, exceptionTable := #[], attributes := #[] }
def k9m1 : Method := { name := "requireNonNull", desc := "(Ljava/lang/Object;Ljava/lang/String;)Ljava/lang/Object;", sig := { parameters := [(.object "java/lang/Object"), (.object "java/lang/String")], returnType := some (.object "java/lang/Object") }, accessFlags := 9, code := some k9c1 }
/-- java/util/Objects -/
def k9 : Class := { plain "java/util/Objects" (some 0) with
  accessFlags := 49
  interfaces := #[]
  cf := some (fileOf pool9 42 #[] #[{ accessFlags := 2, nameIndex := 5, descriptorIndex := 6, attributes := #[] }, { accessFlags := 9, nameIndex := 45, descriptorIndex := 94, attributes := #[] }] 49 2 #[] #[])
  fields := #[]
  methods := #[k9m0, k9m1]
  instanceTypes := #[]
  staticTypes := #[]
  resolved := Array.replicate 184 none
  statics := none }

def pool10 : Array CpInfo := pool [(4, .class_ 6), (1, u "java/lang/Object"), (0, u "<init>"), (0, u "()V"), (5, .class_ 16), (1, u "java/lang/StringLatin1"), (104, u "$assertionsDisabled"), (0, u "Z"), (98, .class_ 223), (1, u "java/lang/StringLatin1$LinesSpliterator"), (57, u "equals"), (0, u "([B[B)Z"), (107, .class_ 391), (0, u "java/lang/StringLatin1$CharsSpliterator")] 3

def k10m0 : Method := { name := "<init>", desc := "()V", sig := { parameters := [], returnType := none }, accessFlags := 0, code := none }
def k10c1 : Code := { maxStack := 3, maxLocals := 3, code := jdk_43_method_13_code, exceptionTable := #[], attributes := #[] }
def k10m1 : Method := { name := "equals", desc := "([B[B)Z", sig := { parameters := [(.array .byte), (.array .byte)], returnType := some .boolean }, accessFlags := 9, code := some k10c1 }
/-- java/lang/StringLatin1 -/
def k10 : Class := { plain "java/lang/StringLatin1" (some 0) with
  accessFlags := 48
  interfaces := #[]
  cf := some (fileOf pool10 14 #[.nestMembers #[390, 221]] #[{ accessFlags := 0, nameIndex := 7, descriptorIndex := 8, attributes := #[] }, { accessFlags := 9, nameIndex := 281, descriptorIndex := 282, attributes := #[] }] 48 4 #[] #[{ accessFlags := 4120, nameIndex := 121, descriptorIndex := 122, attributes := #[] }])
  fields := #[{ name := "$assertionsDisabled", type := .boolean, accessFlags := 4120, slot := 0, constantValue := 0 }]
  methods := #[k10m0, k10m1]
  instanceTypes := #[]
  staticTypes := #[.boolean]
  resolved := Array.replicate 395 none
  statics := none }

def pool11 : Array CpInfo := pool [(6, .class_ 8), (1, u "java/lang/Object"), (0, u "<init>"), (0, u "()V"), (1, .class_ 14), (1, u "java/lang/StringUTF16"), (31, u "$assertionsDisabled"), (0, u "Z"), (13, u "HI_BYTE_SHIFT"), (0, u "I"), (2, u "LO_BYTE_SHIFT"), (49, .methodref 12 116), (0, .nameAndType 117 118), (0, u "compress"), (0, u "([CI[BII)I"), (3, u "([CII)[B"), (138, u "coderFromArrayLen"), (0, u "([BI)B"), (106, .class_ 371), (1, u "java/lang/StringUTF16$LinesSpliterator"), (58, u "MAX_LENGTH"), (196, .class_ 628), (0, u "java/lang/StringUTF16$CodePointsSpliterator"), (0, .class_ 630), (0, u "java/lang/StringUTF16$CharsSpliterator")] 4

def k11m0 : Method := { name := "<init>", desc := "()V", sig := { parameters := [], returnType := none }, accessFlags := 0, code := none }
def k11c1 : Code := { maxStack := 2, maxLocals := 2, code := jdk_52_method_15_code, exceptionTable := #[], attributes := #[] }
def k11m1 : Method := { name := "coderFromArrayLen", desc := "([BI)B", sig := { parameters := [(.array .byte), .int], returnType := some .byte }, accessFlags := 8, code := some k11c1 }
def k11c2 : Code := { maxStack := 5, maxLocals := 6, code := jdk_52_method_16_code, exceptionTable := #[], attributes := #[] }
def k11m2 : Method := { name := "compress", desc := "([CII)[B", sig := { parameters := [(.array .char), .int, .int], returnType := some (.array .byte) }, accessFlags := 9, code := some k11c2 }
def k11c3 : Code := { maxStack := 3, maxLocals := 7, code := jdk_52_method_21_code, exceptionTable := #[], attributes := #[] }
def k11m3 : Method := { name := "compress", desc := "([CI[BII)I", sig := { parameters := [(.array .char), .int, (.array .byte), .int, .int], returnType := some .int }, accessFlags := 9, code := some k11c3 }
/-- java/lang/StringUTF16 -/
def k11 : Class := { plain "java/lang/StringUTF16" (some 0) with
  accessFlags := 48
  interfaces := #[]
  cf := some (fileOf pool11 12 #[.nestMembers #[627, 629, 369]] #[{ accessFlags := 0, nameIndex := 9, descriptorIndex := 10, attributes := #[] }, { accessFlags := 8, nameIndex := 261, descriptorIndex := 262, attributes := #[] }, { accessFlags := 9, nameIndex := 117, descriptorIndex := 122, attributes := #[] }, { accessFlags := 9, nameIndex := 117, descriptorIndex := 118, attributes := #[] }] 48 6 #[] #[{ accessFlags := 26, nameIndex := 61, descriptorIndex := 62, attributes := #[] }, { accessFlags := 26, nameIndex := 65, descriptorIndex := 62, attributes := #[] }, { accessFlags := 24, nameIndex := 430, descriptorIndex := 62, attributes := #[] }, { accessFlags := 4120, nameIndex := 46, descriptorIndex := 47, attributes := #[] }])
  fields := #[{ name := "HI_BYTE_SHIFT", type := .int, accessFlags := 26, slot := 0, constantValue := 0 }, { name := "LO_BYTE_SHIFT", type := .int, accessFlags := 26, slot := 1, constantValue := 0 }, { name := "MAX_LENGTH", type := .int, accessFlags := 24, slot := 2, constantValue := 0 }, { name := "$assertionsDisabled", type := .boolean, accessFlags := 4120, slot := 3, constantValue := 0 }]
  methods := #[k11m0, k11m1, k11m2, k11m3]
  instanceTypes := #[]
  staticTypes := #[.int, .int, .int, .boolean]
  resolved := Array.replicate 635 none
  statics := none }

def pool12 : Array CpInfo := pool [(2, .class_ 4), (1, u "java/lang/Object"), (0, u "<init>"), (0, u "()V"), (17, .class_ 26), (1, u "jdk/internal/util/Preconditions"), (28, .class_ 56), (0, u "jdk/internal/util/Preconditions$4"), (57, .class_ 115), (0, u "jdk/internal/util/Preconditions$1"), (7, u "SIOOBE_FORMATTER"), (0, u "Ljava/util/function/BiFunction;"), (0, .class_ 126), (0, u "jdk/internal/util/Preconditions$2"), (3, u "AIOOBE_FORMATTER"), (0, .class_ 132), (0, u "jdk/internal/util/Preconditions$3"), (3, u "IOOBE_FORMATTER")] 57

def k12m0 : Method := { name := "<init>", desc := "()V", sig := { parameters := [], returnType := none }, accessFlags := 1, code := none }
/-- jdk/internal/util/Preconditions -/
def k12 : Class := { plain "jdk/internal/util/Preconditions" (some 0) with
  accessFlags := 33
  interfaces := #[]
  cf := some (fileOf pool12 24 #[.nestMembers #[55, 131, 125, 114]] #[{ accessFlags := 1, nameIndex := 5, descriptorIndex := 6, attributes := #[] }] 33 2 #[] #[{ accessFlags := 25, nameIndex := 123, descriptorIndex := 124, attributes := #[] }, { accessFlags := 25, nameIndex := 130, descriptorIndex := 124, attributes := #[] }, { accessFlags := 25, nameIndex := 136, descriptorIndex := 124, attributes := #[] }])
  fields := #[{ name := "SIOOBE_FORMATTER", type := (.object "java/util/function/BiFunction"), accessFlags := 25, slot := 0, constantValue := 0 }, { name := "AIOOBE_FORMATTER", type := (.object "java/util/function/BiFunction"), accessFlags := 25, slot := 1, constantValue := 0 }, { name := "IOOBE_FORMATTER", type := (.object "java/util/function/BiFunction"), accessFlags := 25, slot := 2, constantValue := 0 }]
  methods := #[k12m0]
  instanceTypes := #[]
  staticTypes := #[(.object "java/util/function/BiFunction"), (.object "java/util/function/BiFunction"), (.object "java/util/function/BiFunction")]
  resolved := Array.replicate 194 none
  statics := some 1 }

def pool13 : Array CpInfo := pool [(9, u "<init>"), (6, .class_ 18), (1, u "java/lang/Object"), (0, u "()V"), (1, .class_ 23), (1, u "jdk/internal/util/ArraysSupport"), (0, u "LOG2_ARRAY_LONG_INDEX_SCALE"), (0, u "I"), (2, u "U"), (0, u "Ljdk/internal/misc/Unsafe;"), (8, u "BIG_ENDIAN"), (0, u "Z"), (8, u "LOG2_BYTE_BIT_SIZE"), (4, u "LOG2_ARRAY_INT_INDEX_SCALE"), (54, u "JLA"), (0, u "Ljdk/internal/access/JavaLangAccess;"), (11, u "LOG2_ARRAY_BOOLEAN_INDEX_SCALE"), (9, u "LOG2_ARRAY_BYTE_INDEX_SCALE"), (5, u "LOG2_ARRAY_CHAR_INDEX_SCALE"), (5, u "LOG2_ARRAY_SHORT_INDEX_SCALE"), (18, u "LOG2_ARRAY_FLOAT_INDEX_SCALE"), (24, u "LOG2_ARRAY_DOUBLE_INDEX_SCALE"), (89, u "T_BOOLEAN"), (2, u "T_CHAR"), (1, u "T_FLOAT"), (1, u "T_DOUBLE"), (1, u "T_BYTE"), (1, u "T_SHORT"), (1, u "T_INT"), (1, u "T_LONG"), (1, u "SOFT_MAX_ARRAY_LENGTH")] 83

def k13m0 : Method := { name := "<init>", desc := "()V", sig := { parameters := [], returnType := none }, accessFlags := 2, code := none }
/-- jdk/internal/util/ArraysSupport -/
def k13 : Class := { plain "jdk/internal/util/ArraysSupport" (some 0) with
  accessFlags := 33
  interfaces := #[]
  cf := some (fileOf pool13 21 #[] #[{ accessFlags := 2, nameIndex := 9, descriptorIndex := 19, attributes := #[] }] 33 16 #[] #[{ accessFlags := 24, nameIndex := 28, descriptorIndex := 29, attributes := #[] }, { accessFlags := 26, nameIndex := 38, descriptorIndex := 39, attributes := #[] }, { accessFlags := 25, nameIndex := 121, descriptorIndex := 25, attributes := #[] }, { accessFlags := 25, nameIndex := 131, descriptorIndex := 25, attributes := #[] }, { accessFlags := 25, nameIndex := 137, descriptorIndex := 25, attributes := #[] }, { accessFlags := 25, nameIndex := 143, descriptorIndex := 25, attributes := #[] }, { accessFlags := 25, nameIndex := 53, descriptorIndex := 25, attributes := #[] }, { accessFlags := 25, nameIndex := 24, descriptorIndex := 25, attributes := #[] }, { accessFlags := 25, nameIndex := 162, descriptorIndex := 25, attributes := #[] }, { accessFlags := 25, nameIndex := 187, descriptorIndex := 25, attributes := #[] }, { accessFlags := 26, nameIndex := 48, descriptorIndex := 25, attributes := #[] }, { accessFlags := 25, nameIndex := 277, descriptorIndex := 25, attributes := #[] }, { accessFlags := 25, nameIndex := 280, descriptorIndex := 25, attributes := #[] }, { accessFlags := 25, nameIndex := 282, descriptorIndex := 25, attributes := #[] }, { accessFlags := 25, nameIndex := 284, descriptorIndex := 25, attributes := #[] }, { accessFlags := 25, nameIndex := 286, descriptorIndex := 25, attributes := #[] }, { accessFlags := 25, nameIndex := 288, descriptorIndex := 25, attributes := #[] }, { accessFlags := 25, nameIndex := 290, descriptorIndex := 25, attributes := #[] }, { accessFlags := 25, nameIndex := 292, descriptorIndex := 25, attributes := #[] }, { accessFlags := 26, nameIndex := 108, descriptorIndex := 109, attributes := #[] }, { accessFlags := 25, nameIndex := 294, descriptorIndex := 25, attributes := #[] }])
  fields := #[{ name := "U", type := (.object "jdk/internal/misc/Unsafe"), accessFlags := 24, slot := 0, constantValue := 0 }, { name := "BIG_ENDIAN", type := .boolean, accessFlags := 26, slot := 1, constantValue := 0 }, { name := "LOG2_ARRAY_BOOLEAN_INDEX_SCALE", type := .int, accessFlags := 25, slot := 2, constantValue := 0 }, { name := "LOG2_ARRAY_BYTE_INDEX_SCALE", type := .int, accessFlags := 25, slot := 3, constantValue := 0 }, { name := "LOG2_ARRAY_CHAR_INDEX_SCALE", type := .int, accessFlags := 25, slot := 4, constantValue := 0 }, { name := "LOG2_ARRAY_SHORT_INDEX_SCALE", type := .int, accessFlags := 25, slot := 5, constantValue := 0 }, { name := "LOG2_ARRAY_INT_INDEX_SCALE", type := .int, accessFlags := 25, slot := 6, constantValue := 0 }, { name := "LOG2_ARRAY_LONG_INDEX_SCALE", type := .int, accessFlags := 25, slot := 7, constantValue := 0 }, { name := "LOG2_ARRAY_FLOAT_INDEX_SCALE", type := .int, accessFlags := 25, slot := 8, constantValue := 0 }, { name := "LOG2_ARRAY_DOUBLE_INDEX_SCALE", type := .int, accessFlags := 25, slot := 9, constantValue := 0 }, { name := "LOG2_BYTE_BIT_SIZE", type := .int, accessFlags := 26, slot := 10, constantValue := 0 }, { name := "T_BOOLEAN", type := .int, accessFlags := 25, slot := 11, constantValue := 0 }, { name := "T_CHAR", type := .int, accessFlags := 25, slot := 12, constantValue := 0 }, { name := "T_FLOAT", type := .int, accessFlags := 25, slot := 13, constantValue := 0 }, { name := "T_DOUBLE", type := .int, accessFlags := 25, slot := 14, constantValue := 0 }, { name := "T_BYTE", type := .int, accessFlags := 25, slot := 15, constantValue := 0 }, { name := "T_SHORT", type := .int, accessFlags := 25, slot := 16, constantValue := 0 }, { name := "T_INT", type := .int, accessFlags := 25, slot := 17, constantValue := 0 }, { name := "T_LONG", type := .int, accessFlags := 25, slot := 18, constantValue := 0 }, { name := "JLA", type := (.object "jdk/internal/access/JavaLangAccess"), accessFlags := 26, slot := 19, constantValue := 0 }, { name := "SOFT_MAX_ARRAY_LENGTH", type := .int, accessFlags := 25, slot := 20, constantValue := 0 }]
  methods := #[k13m0]
  instanceTypes := #[]
  staticTypes := #[(.object "jdk/internal/misc/Unsafe"), .boolean, .int, .int, .int, .int, .int, .int, .int, .int, .int, .int, .int, .int, .int, .int, .int, .int, .int, (.object "jdk/internal/access/JavaLangAccess"), .int]
  resolved := Array.replicate 378 none
  statics := none }

def pool14 : Array CpInfo := pool [(1, u "java/lang/Cloneable"), (0, .class_ 1), (0, u "java/lang/Object"), (0, .class_ 3)] 3

/-- java/lang/Cloneable -/
def k14 : Class := { plain "java/lang/Cloneable" (some 0) with
  accessFlags := 1537
  interfaces := #[]
  cf := some (fileOf pool14 2 #[] #[] 1537 4 #[] #[])
  fields := #[]
  methods := #[]
  instanceTypes := #[]
  staticTypes := #[]
  resolved := Array.replicate 8 none
  statics := none }

/-- the primitive byte -/
def k15 : Class := { plain "byte" none with kind := .primitive 'B', accessFlags := 0x411 }
/-- [B -/
def k16 : Class := { plain "[B" (some 0) with kind := .array 15 .byte, interfaces := #[14, 2], accessFlags := 1041 }

/-- the primitive char -/
def k17 : Class := { plain "char" none with kind := .primitive 'C', accessFlags := 0x411 }
/-- [C -/
def k18 : Class := { plain "[C" (some 0) with kind := .array 17 .char, interfaces := #[14, 2], accessFlags := 1041 }

/-- the primitive int -/
def k19 : Class := { plain "int" none with kind := .primitive 'I', accessFlags := 0x411 }
/-- [I -/
def k20 : Class := { plain "[I" (some 0) with kind := .array 19 .int, interfaces := #[14, 2], accessFlags := 1041 }

def heap : Heap := #[{ cls := 7, slots := #[.long 0, .int 1, .null, .int 0, .null, .int 0, .int 0], vm := .statics 7 },
  { cls := 12, slots := #[.null, .null, .null], vm := .statics 12 }]
def classes : Array Class := #[k0, k1, k2, k3, k4, k5, k6, k7, k8, k9, k10, k11, k12, k13, k14, k15, k16, k17, k18, k19, k20, plain "jdk/internal/util/ArraysSupport" (some 0)]
def interned : List (Array UInt16 × Addr) := []
def slotsUsed : Nat := 10
def theMethod : MethodId := ⟨1, 4⟩
def args0 : Array Value := #[.long 5, .long 7, .int 3, .int 1, .int 3]
def aboutOver (below : List Frame) : State where
  vm := { classes := classes, interned := interned.toArray }
  heap := heap
  slotsUsed := slotsUsed
  threads := #[{ frames := .invoking theMethod args0 :: below }]
def below0 : List Frame := [.native { method := ⟨0, 0⟩, args := #[] }]
def about1 : State := aboutOver below0
def p0 : Program := .bare "" "" ""
def e0 : Env := launch0.env 0 0 0
theorem w_frames : about1.frames = Frame.invoking theMethod args0 :: below0 := rfl
set_option maxRecDepth 65536 in
theorem w_args : argsFit about1.vm theMethod args0 = true := by decide +kernel
set_option maxRecDepth 65536 in
theorem w_heap : heapFits about1 = true := by decide +kernel
set_option maxRecDepth 65536 in
theorem w_runnable : about1.curStatus? = some .runnable := by decide +kernel
set_option maxRecDepth 65536 in
theorem w_alone : about1.alone = true := by decide +kernel
set_option maxRecDepth 65536 in
theorem w_named : about1.methodNamed? x = some theMethod := by decide +kernel
set_option maxRecDepth 65536 in
theorem w_hears : about1.hears theMethod below0 = true := by decide +kernel
set_option maxRecDepth 65536 in
theorem w_ripe : about1.ripe theMethod args0 below0 = true := by decide +kernel
theorem w_running : about1.status = .running := rfl
set_option maxRecDepth 65536 in
theorem w_room : about1.hasRoom e0.platform room_1 = true :=
  launch0.hasRoom_least _ room_1 (by decide +kernel) (by decide +kernel) (by decide +kernel) (by decide +kernel) (by decide +kernel) (by decide +kernel)
theorem allAtoms_all (ts : List Jvm.Cond) (a : Array Jvm.Value) (st : Jvm.State) : (allAtoms ts).before a st = ts.all (fun c => c.before a st) := by
  induction ts with
  | nil => rfl
  | cons c t ih =>
    show (Jvm.Cond.and c (allAtoms t)).before a st = _
    rw [Jvm.Cond.before_and, ih, List.all_cons]
def words1 : List Jvm.Cond := Jvm.Cond.code x code maxLocals ret :: tables_1
/-- a 'code' word, met by the world's own term for the bytes: nothing is compared byte by byte -/
theorem code_word {y : MethodName} {bytes : ByteArray} {mx : Nat} {rt : Option FieldType} {a : Array Value} {s : State} {m : MethodId} {meth : Method} {c : Code} (h1 : s.methodNamed? y = some m) (h2 : s.vm.method? m = some meth) (h3 : meth.code = some c) (h4 : c.code = bytes)
    (h5 : (c.maxLocals == mx && c.exceptionTable.isEmpty && decide (c.maxStack ≤ mostOperands) && decide (meth.sig.returnType = rt) && !meth.locks && decide (parseMethodDescriptor y.desc = some meth.sig)) = true) : (Jvm.Cond.code y bytes mx rt).before a s = true := by
  simp only [Bool.and_eq_true, beq_iff_eq, Bool.not_eq_true', decide_eq_true_eq] at h5
  obtain ⟨⟨⟨⟨⟨g1, g2⟩, g3⟩, g4⟩, g5⟩, g6⟩ := h5
  simp [Cond.before, Cond.holds, Cond.value, h1, h2, h3, h4, g1, g2, g3, g4, g5, g6]
def isCode : Jvm.Cond → Bool
  | .code _ _ _ _ => true
  | _ => false
theorem all_split {L : List Jvm.Cond} {P : Jvm.Cond → Bool} (h1 : L.all (fun c => isCode c || P c) = true) (h2 : ∀ c ∈ L.filter isCode, P c = true) : L.all P = true := by
  refine List.all_eq_true.mpr fun c hc => ?_
  have h := List.all_eq_true.mp h1 c hc
  rcases Bool.eq_false_or_eq_true (isCode c) with hi | hi
  · exact h2 c (List.mem_filter.mpr ⟨hc, hi⟩)
  · simpa [hi] using h
set_option maxRecDepth 65536 in
theorem w_c0 : (Jvm.Cond.code x code maxLocals ret).before args0 about1 = true := code_word (m := ⟨1, 4⟩) (meth := k1m4) (c := k1c4) (by decide +kernel) rfl rfl rfl (by decide +kernel)
set_option maxRecDepth 65536 in
theorem w_c1 : (Jvm.Cond.code ({ cls := "com/example/postie/postie/config/ListenEqualsPinLaw", name := "pick", desc := "(IICJI)C" } : Jvm.MethodName) method_4_code (6 : Nat) (Option.some Jvm.ClassFile.FieldType.char)).before args0 about1 = true := code_word (m := ⟨1, 3⟩) (meth := k1m3) (c := k1c3) (by decide +kernel) rfl rfl rfl (by decide +kernel)
set_option maxRecDepth 65536 in
theorem w_c2 : (Jvm.Cond.code ({ cls := "com/example/postie/postie/config/ListenEqualsPinLaw", name := "make", desc := "([CI)Ljava/lang/String;" } : Jvm.MethodName) method_2_code (2 : Nat) (Option.some (Jvm.ClassFile.FieldType.object "java/lang/String"))).before args0 about1 = true := code_word (m := ⟨1, 1⟩) (meth := k1m1) (c := k1c1) (by decide +kernel) rfl rfl rfl (by decide +kernel)
set_option maxRecDepth 65536 in
theorem w_c3 : (Jvm.Cond.code ({ cls := "java/lang/String", name := "<init>", desc := "([C)V" } : Jvm.MethodName) jdk_42_method_3_code (2 : Nat) (Option.none : Option Jvm.ClassFile.FieldType)).before args0 about1 = true := code_word (m := ⟨7, 1⟩) (meth := k7m1) (c := k7c1) (by decide +kernel) rfl rfl rfl (by decide +kernel)
set_option maxRecDepth 65536 in
theorem w_c4 : (Jvm.Cond.code ({ cls := "java/lang/String", name := "<init>", desc := "([CIILjava/lang/Void;)V" } : Jvm.MethodName) jdk_42_method_149_code (6 : Nat) (Option.none : Option Jvm.ClassFile.FieldType)).before args0 about1 = true := code_word (m := ⟨7, 3⟩) (meth := k7m3) (c := k7c3) (by decide +kernel) rfl rfl rfl (by decide +kernel)
set_option maxRecDepth 65536 in
theorem w_c5 : (Jvm.Cond.code ({ cls := "java/lang/Object", name := "<init>", desc := "()V" } : Jvm.MethodName) object_method_1_code (1 : Nat) (Option.none : Option Jvm.ClassFile.FieldType)).before args0 about1 = true := code_word (m := ⟨0, 0⟩) (meth := k0m0) (c := k0c0) (by decide +kernel) rfl rfl rfl (by decide +kernel)
set_option maxRecDepth 65536 in
theorem w_c6 : (Jvm.Cond.code ({ cls := "com/example/postie/postie/config/Listen", name := "<init>", desc := "(Ljava/lang/String;I)V" } : Jvm.MethodName) prog_10_method_1_code (3 : Nat) (Option.none : Option Jvm.ClassFile.FieldType)).before args0 about1 = true := code_word (m := ⟨8, 0⟩) (meth := k8m0) (c := k8c0) (by decide +kernel) rfl rfl rfl (by decide +kernel)
set_option maxRecDepth 65536 in
theorem w_c7 : (Jvm.Cond.code ({ cls := "java/util/Objects", name := "requireNonNull", desc := "(Ljava/lang/Object;Ljava/lang/String;)Ljava/lang/Object;" } : Jvm.MethodName) jdk_31_method_11_code (2 : Nat) (Option.some (Jvm.ClassFile.FieldType.object "java/lang/Object"))).before args0 about1 = true := code_word (m := ⟨9, 1⟩) (meth := k9m1) (c := k9c1) (by decide +kernel) rfl rfl rfl (by decide +kernel)
set_option maxRecDepth 65536 in
theorem w_c8 : (Jvm.Cond.code ({ cls := "com/example/postie/postie/config/ListenEqualsPinLaw", name := "sameChars", desc := "([CI[CI)Z" } : Jvm.MethodName) method_3_code (5 : Nat) (Option.some Jvm.ClassFile.FieldType.boolean)).before args0 about1 = true := code_word (m := ⟨1, 2⟩) (meth := k1m2) (c := k1c2) (by decide +kernel) rfl rfl rfl (by decide +kernel)
set_option maxRecDepth 65536 in
theorem w_c9 : (Jvm.Cond.code ({ cls := "com/example/postie/postie/config/Listen", name := "equals", desc := "(Ljava/lang/Object;)Z" } : Jvm.MethodName) prog_10_method_4_code (2 : Nat) (Option.some Jvm.ClassFile.FieldType.boolean)).before args0 about1 = true := code_word (m := ⟨8, 1⟩) (meth := k8m1) (c := k8c1) (by decide +kernel) rfl rfl rfl (by decide +kernel)
set_option maxRecDepth 65536 in
theorem w_c10 : (Jvm.Cond.code ({ cls := "java/lang/String", name := "equals", desc := "(Ljava/lang/Object;)Z" } : Jvm.MethodName) jdk_42_method_66_code (3 : Nat) (Option.some Jvm.ClassFile.FieldType.boolean)).before args0 about1 = true := code_word (m := ⟨7, 2⟩) (meth := k7m2) (c := k7c2) (by decide +kernel) rfl rfl rfl (by decide +kernel)
set_option maxRecDepth 65536 in
theorem w_c11 : (Jvm.Cond.code ({ cls := "java/lang/StringLatin1", name := "equals", desc := "([B[B)Z" } : Jvm.MethodName) jdk_43_method_13_code (3 : Nat) (Option.some Jvm.ClassFile.FieldType.boolean)).before args0 about1 = true := code_word (m := ⟨10, 1⟩) (meth := k10m1) (c := k10c1) (by decide +kernel) rfl rfl rfl (by decide +kernel)
set_option maxRecDepth 65536 in
theorem w_c12 : (Jvm.Cond.code ({ cls := "java/lang/StringUTF16", name := "compress", desc := "([CII)[B" } : Jvm.MethodName) jdk_52_method_16_code (6 : Nat) (Option.some (Jvm.ClassFile.FieldType.array Jvm.ClassFile.FieldType.byte))).before args0 about1 = true := code_word (m := ⟨11, 2⟩) (meth := k11m2) (c := k11c2) (by decide +kernel) rfl rfl rfl (by decide +kernel)
set_option maxRecDepth 65536 in
theorem w_c13 : (Jvm.Cond.code ({ cls := "java/lang/StringUTF16", name := "compress", desc := "([CI[BII)I" } : Jvm.MethodName) jdk_52_method_21_code (7 : Nat) (Option.some Jvm.ClassFile.FieldType.int)).before args0 about1 = true := code_word (m := ⟨11, 3⟩) (meth := k11m3) (c := k11c3) (by decide +kernel) rfl rfl rfl (by decide +kernel)
set_option maxRecDepth 65536 in
theorem w_c14 : (Jvm.Cond.code ({ cls := "java/lang/StringUTF16", name := "coderFromArrayLen", desc := "([BI)B" } : Jvm.MethodName) jdk_52_method_15_code (2 : Nat) (Option.some Jvm.ClassFile.FieldType.byte)).before args0 about1 = true := code_word (m := ⟨11, 1⟩) (meth := k11m1) (c := k11c1) (by decide +kernel) rfl rfl rfl (by decide +kernel)
def codes1 : List Jvm.Cond := [Jvm.Cond.code x code maxLocals ret, Jvm.Cond.code ({ cls := "com/example/postie/postie/config/ListenEqualsPinLaw", name := "pick", desc := "(IICJI)C" } : Jvm.MethodName) method_4_code (6 : Nat) (Option.some Jvm.ClassFile.FieldType.char), Jvm.Cond.code ({ cls := "com/example/postie/postie/config/ListenEqualsPinLaw", name := "make", desc := "([CI)Ljava/lang/String;" } : Jvm.MethodName) method_2_code (2 : Nat) (Option.some (Jvm.ClassFile.FieldType.object "java/lang/String")), Jvm.Cond.code ({ cls := "java/lang/String", name := "<init>", desc := "([C)V" } : Jvm.MethodName) jdk_42_method_3_code (2 : Nat) (Option.none : Option Jvm.ClassFile.FieldType), Jvm.Cond.code ({ cls := "java/lang/String", name := "<init>", desc := "([CIILjava/lang/Void;)V" } : Jvm.MethodName) jdk_42_method_149_code (6 : Nat) (Option.none : Option Jvm.ClassFile.FieldType), Jvm.Cond.code ({ cls := "java/lang/Object", name := "<init>", desc := "()V" } : Jvm.MethodName) object_method_1_code (1 : Nat) (Option.none : Option Jvm.ClassFile.FieldType), Jvm.Cond.code ({ cls := "com/example/postie/postie/config/Listen", name := "<init>", desc := "(Ljava/lang/String;I)V" } : Jvm.MethodName) prog_10_method_1_code (3 : Nat) (Option.none : Option Jvm.ClassFile.FieldType), Jvm.Cond.code ({ cls := "java/util/Objects", name := "requireNonNull", desc := "(Ljava/lang/Object;Ljava/lang/String;)Ljava/lang/Object;" } : Jvm.MethodName) jdk_31_method_11_code (2 : Nat) (Option.some (Jvm.ClassFile.FieldType.object "java/lang/Object")), Jvm.Cond.code ({ cls := "com/example/postie/postie/config/ListenEqualsPinLaw", name := "sameChars", desc := "([CI[CI)Z" } : Jvm.MethodName) method_3_code (5 : Nat) (Option.some Jvm.ClassFile.FieldType.boolean), Jvm.Cond.code ({ cls := "com/example/postie/postie/config/Listen", name := "equals", desc := "(Ljava/lang/Object;)Z" } : Jvm.MethodName) prog_10_method_4_code (2 : Nat) (Option.some Jvm.ClassFile.FieldType.boolean), Jvm.Cond.code ({ cls := "java/lang/String", name := "equals", desc := "(Ljava/lang/Object;)Z" } : Jvm.MethodName) jdk_42_method_66_code (3 : Nat) (Option.some Jvm.ClassFile.FieldType.boolean), Jvm.Cond.code ({ cls := "java/lang/StringLatin1", name := "equals", desc := "([B[B)Z" } : Jvm.MethodName) jdk_43_method_13_code (3 : Nat) (Option.some Jvm.ClassFile.FieldType.boolean), Jvm.Cond.code ({ cls := "java/lang/StringUTF16", name := "compress", desc := "([CII)[B" } : Jvm.MethodName) jdk_52_method_16_code (6 : Nat) (Option.some (Jvm.ClassFile.FieldType.array Jvm.ClassFile.FieldType.byte)), Jvm.Cond.code ({ cls := "java/lang/StringUTF16", name := "compress", desc := "([CI[BII)I" } : Jvm.MethodName) jdk_52_method_21_code (7 : Nat) (Option.some Jvm.ClassFile.FieldType.int), Jvm.Cond.code ({ cls := "java/lang/StringUTF16", name := "coderFromArrayLen", desc := "([BI)B" } : Jvm.MethodName) jdk_52_method_15_code (2 : Nat) (Option.some Jvm.ClassFile.FieldType.byte)]
set_option maxRecDepth 65536 in
theorem codes_eq : words1.filter isCode = codes1 := rfl
theorem w_codes : ∀ c ∈ words1.filter isCode, c.before args0 about1 = true := by
  rw [codes_eq]
  intro c hc
  simp only [codes1, List.mem_cons, List.not_mem_nil, or_false] at hc
  rcases hc with rfl | rfl | rfl | rfl | rfl | rfl | rfl | rfl | rfl | rfl | rfl | rfl | rfl | rfl | rfl
  · exact w_c0
  · exact w_c1
  · exact w_c2
  · exact w_c3
  · exact w_c4
  · exact w_c5
  · exact w_c6
  · exact w_c7
  · exact w_c8
  · exact w_c9
  · exact w_c10
  · exact w_c11
  · exact w_c12
  · exact w_c13
  · exact w_c14
set_option maxRecDepth 65536 in
theorem w_t1 : (words1.take 24).all (fun c => isCode c || c.before args0 about1) = true := by decide +kernel
set_option maxRecDepth 65536 in
theorem w_t2 : ((words1.drop 24).take 24).all (fun c => isCode c || c.before args0 about1) = true := by decide +kernel
set_option maxRecDepth 65536 in
theorem w_t3 : (((words1.drop 24).drop 24).take 24).all (fun c => isCode c || c.before args0 about1) = true := by decide +kernel
set_option maxRecDepth 65536 in
theorem w_t4 : (((words1.drop 24).drop 24).drop 24).all (fun c => isCode c || c.before args0 about1) = true := by decide +kernel
theorem w_tables : (allAtoms (Jvm.Cond.code x code maxLocals ret :: tables_1)).before args0 about1 = true := by
  rw [allAtoms_all]
  show words1.all (fun c => c.before args0 about1) = true
  refine all_split ?_ w_codes
  rw [← List.take_append_drop 24 words1, List.all_append, w_t1, ← List.take_append_drop 24 (words1.drop 24), List.all_append, w_t2, ← List.take_append_drop 24 ((words1.drop 24).drop 24), List.all_append, w_t3, w_t4]
  rfl
set_option maxRecDepth 65536 in
theorem w_rest : rest_1_c.before args0 about1 = true := by decide +kernel
set_option maxRecDepth 65536 in
theorem w_case : (Jvm.Cond.and given_1 narrow_1).before args0 about1 = true := by decide +kernel
set_option maxRecDepth 65536 in
theorem w_consts : constsHeld consts_1 about1 := Jvm.Lit.constsHeldB_iff.mp (by decide +kernel)
theorem w_applies : (headSpec (Jvm.Cond.code x code maxLocals ret :: tables_1) room_1).applies x e0.platform about1 = true :=
  (Spec.applies_iff w_frames).mpr ⟨w_running, w_runnable, w_alone, w_named, w_hears, w_ripe, w_room, w_tables⟩
theorem atStart : AtStart classFile x code maxLocals ret World_1 tables_1 room_1 Calls_1 rest_1 Pre_1 launch0 p0 e0 about1 theMethod args0 below0 :=
  ⟨lists_1, trivial, launch0.admits_env _ _ _, launch0.least_env, fairChoices_fair.cas, fairChoices_fair.clock, w_frames, w_args, w_heap, w_applies, ⟨w_consts, trivial⟩, w_rest, w_case⟩
end start1
theorem witness_1 : WitnessClaimed_1 := ⟨start1.p0, start1.e0, start1.about1, start1.theMethod, start1.args0, start1.below0, start1.atStart⟩
end Jvm.Pilot.@@N@@
