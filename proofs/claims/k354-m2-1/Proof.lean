import JvmDerived
import JvmDerived.Pilot.@@N@@Statement
import JvmDerived.Pilot.@@N@@Code
set_option linter.unusedVariables false
set_option linter.unusedSimpArgs false
namespace Jvm.RoadKit
open Sem ClassFile Op Lib Jvm.Stand Jvm.Free Jvm.LawKit
section New
variable {p : Program} {l : Launch} {e : Env} {R : Room} {s : State} {m : MethodId} {args : Array Value} {below : List Frame} {meth : Method} {c : Code} {T : State} {locs : List Loc} {cells slots : Nat}
theorem retI (X : Stand p l e R s m args below meth c T locs cells slots) (hx : p.tables.exec = Jvm.exec) {pc : Nat} {Ls : Array Slot} {z : Int32} {rest : List Value} (hret : meth.sig.returnType = some .int) (hd : decode c.code pc = .ok (.ireturn, 1)) {fs : List Frame}
    (hl : ∀ (f : JFrame) (acts : List Action), f.method = m → f.locked = none → f.entered = [] → (doReturn e (T.setTop f) acts (some (.int z))).1 = T.setFrames fs) : Steps p.tables e below (T.setTop (mkF m pc Ls (.int z :: rest))) (T.setFrames fs) := by
  have hm' : T.vm.method? m = some meth := X.method'
  have hn : narrow .int (.int z) = .int z := rfl
  show Steps p.tables e below (T.setTop { method := m, pc := pc, locals := Ls, stack := _ :: rest, locked := none }) _
  jvm_step X.here [X.here.top, hx, hd, hm', hret, hn]
  first | (intro acts; rw [hl _ acts rfl rfl rfl]) | rw [hl _ _ rfl rfl rfl]
  exact Steps.refl _
end New
end Jvm.RoadKit

/- laws to paste: Road.backV (cut by pick.py; bodies as the Statement names them) -/
namespace Jvm.Pilot.@@N@@
namespace StrChars
open Jvm Sem ClassFile Op Lib Jvm.Stand Jvm.Free.XT Jvm.Free.ALB Jvm.Free.JM Jvm.Free
open Jvm.Lib.Cold (StaticIs)
/-- a char array whose places are chars -/
def Ch (a : Addr) (A : Cell) (U : State) : Prop := Arr .char a A U ∧ Typed .char A
theorem Ch.mv {a : Addr} {A : Cell} {U U' : State} (h : Ch a A U) (hal : U.vm.Alike U'.vm) (hh : U'.heap = U.heap) : Ch a A U' := ⟨h.1.mv hal hh, h.2⟩
theorem Ch.keep {a : Addr} {A : Cell} {U U' : State} (h : Ch a A U) (hal : U.vm.Alike U'.vm) (hk : U'.heap[a]? = some A) : Ch a A U' := ⟨h.1.keep hal hk, h.2⟩
/-- what place i of a char[]'s cell holds -/
def cv (A : Cell) (i : Nat) : Int32 := match A.slots[i]? with | some (.int x) => x | _ => 0
theorem Ch.get {a : Addr} {A : Cell} {U : State} (h : Ch a A U) {i : Nat} (hi : i < A.slots.size) : A.slots[i]? = some (.int (cv A i)) := by
  have e := Array.getElem?_eq_getElem hi
  have f := h.2 i _ e
  unfold cv; rw [e]
  generalize A.slots[i] = v at f
  cases v <;> simp [fits] at f ⊢
/-- the byte that i2b leaves of a char -/
def lo8 (x : Int32) : Int32 := x.toInt8.toInt32
theorem fits_lo8 (y : Int32) : fits .byte (.int (lo8 y)) = true := by
  have h1 := y.toInt8.le_toInt
  have h2 := y.toInt8.toInt_lt
  simp only [lo8, fits, Bool.and_eq_true, decide_eq_true_eq, Int32.le_iff_toInt_le, Int8.toInt_toInt32, show (-128 : Int32).toInt = -128 from by decide, show (127 : Int32).toInt = 127 from by decide]
  omega
/-- A' is A but that each place j of lo .. hi - 1 holds f j -/
def Laid (A A' : Cell) (lo hi : Nat) (f : Nat → Value) : Prop := A'.cls = A.cls ∧ A'.vm = A.vm ∧ A'.slots.size = A.slots.size ∧ ∀ i, A'.slots[i]? = if lo ≤ i ∧ i < hi then some (f i) else A.slots[i]?
theorem Laid.zero (A : Cell) (lo : Nat) (f : Nat → Value) : Laid A A lo (lo + 0) f := ⟨rfl, rfl, rfl, fun i => by rw [if_neg (by omega)]⟩
theorem Laid.step {A Ak : Cell} {lo k : Nat} {f : Nat → Value} {v : Value} (h : Laid A Ak lo k f) (hlo : lo ≤ k) (hk : k < Ak.slots.size) (hv : v = f k) : Laid A (Ak.setSlot k v) lo (k + 1) f := by
  refine ⟨h.1, h.2.1, by simpa [Cell.setSlot] using h.2.2.1, fun i => ?_⟩
  by_cases e : k = i
  · subst e; rw [Cell.slots_setSlot_self v hk, if_pos (by omega), hv]
  · rw [Cell.slots_setSlot_ne v e, h.2.2.2 i]
    by_cases q : lo ≤ i ∧ i < k
    · rw [if_pos q, if_pos (by omega)]
    · rw [if_neg q, if_neg (by omega)]
def U16 : String := "java/lang/StringUTF16"
namespace Cmp5
def yN : MethodName := ⟨"java/lang/StringUTF16", "compress", "([CI[BII)I"⟩
abbrev yB : ByteArray := jdk_52_method_21_code
theorem d0 : decode yB 0 = .ok (.iconst 0, 1) := by decide +kernel
theorem d1 : decode yB 1 = .ok (.istore 5, 2) := by decide +kernel
theorem d3 : decode yB 3 = .ok (.iload 5, 2) := by decide +kernel
theorem d5 : decode yB 5 = .ok (.iload 4, 2) := by decide +kernel
theorem d7 : decode yB 7 = .ok (.if_icmp (.ge) 37, 3) := by decide +kernel
theorem d10 : decode yB 10 = .ok (.aload_n 0, 1) := by decide +kernel
theorem d11 : decode yB 11 = .ok (.iload_n 1, 1) := by decide +kernel
theorem d12 : decode yB 12 = .ok (.caload, 1) := by decide +kernel
theorem d13 : decode yB 13 = .ok (.istore 6, 2) := by decide +kernel
theorem d15 : decode yB 15 = .ok (.iload 6, 2) := by decide +kernel
theorem d17 : decode yB 17 = .ok (.sipush 255, 3) := by decide +kernel
theorem d20 : decode yB 20 = .ok (.if_icmp (.le) 6, 3) := by decide +kernel
theorem d26 : decode yB 26 = .ok (.aload_n 2, 1) := by decide +kernel
theorem d27 : decode yB 27 = .ok (.iload_n 3, 1) := by decide +kernel
theorem d28 : decode yB 28 = .ok (.iload 6, 2) := by decide +kernel
theorem d30 : decode yB 30 = .ok (.i2b, 1) := by decide +kernel
theorem d31 : decode yB 31 = .ok (.bastore, 1) := by decide +kernel
theorem d32 : decode yB 32 = .ok (.iinc 1 1, 3) := by decide +kernel
theorem d35 : decode yB 35 = .ok (.iinc 3 1, 3) := by decide +kernel
theorem d38 : decode yB 38 = .ok (.iinc 5 1, 3) := by decide +kernel
theorem d41 : decode yB 41 = .ok (.goto (-38), 3) := by decide +kernel
theorem d44 : decode yB 44 = .ok (.iload 4, 2) := by decide +kernel
theorem d46 : decode yB 46 = .ok (.ireturn, 1) := by decide +kernel
def site : List Cond := []
def tab : Cond := tabOf yN yB 7 (some .int) site
def P (b : Addr) (A : Cell) (d : Addr) (B : Cell) (o q len : Nat) (args : Array Value) (s : State) : Prop := args = #[.ref b, .int (Int32.ofNat o), .ref d, .int (Int32.ofNat q), .int (Int32.ofNat len)] ∧ Ch b A s ∧ Arr .byte d B s ∧ b ≠ d ∧ o + len ≤ A.slots.size ∧ q + len ≤ B.slots.size ∧ ∀ i, i < len → ¬ 255 < cv A (o + i)
def E (b : Addr) (A : Cell) (d : Addr) (B : Cell) (o q len : Nat) (r : Option Value) (s u : State) : Prop := r = some (.int (Int32.ofNat len)) ∧ ∃ B', Put d B' s u ∧ Laid B B' q (q + len) (fun j => Value.int (lo8 (cv A (o + (j - q)))))
/-- no char of the range above 255: len; the places written hold each char's low byte -/
theorem law (l : Launch) (b : Addr) (A : Cell) (d : Addr) (B : Cell) (o q len : Nat) : Law l yN 5 5 0 0 yB 7 (some .int) site (P b A d B o q len) (E b A d B o q len) (copyLocs d q len) 0 0 := by
  refine Law.of_walk (plainFor_of_name (by decide +kernel)) (by decide +kernel) (by decide +kernel) (by decide) (fun _ _ h => by rw [h.1]; rfl) (fun _ U U' hal hh h => ⟨h.1, h.2.1.mv hal hh, h.2.2.1.mv hal hh, h.2.2.2⟩) (fun r U U' V V' h1 hal h2 h => ⟨h.1, h.2.elim fun B' q => ⟨B', q.1.mv h1 h2, q.2⟩⟩) ?_
  intro p e s m args below meth c s₁ X0 hexec hbytes hml hret hlk hnm hown hh0 W hP
  obtain ⟨rfl, hA, hB, hne, l1, l2, hp⟩ := hP
  have c1 : Steps p.tables e below (s₁.setTop (entryFrame m #[.ref b, .int (Int32.ofNat o), .ref d, .int (Int32.ofNat q), .int (Int32.ofNat len)] 7)) (s₁.setTop (mkF m 0 #[.val (.ref b), .val (.int (Int32.ofNat o)), .val (.ref d), .val (.int (Int32.ofNat q)), .val (.int (Int32.ofNat len)), .unset, .unset] [])) := entry rfl
  have hA0 := hA.1.mv X0.warmed.alike hh0
  have hB0 := hB.mv X0.warmed.alike hh0
  have a31 := hA.1.2.2.2
  have c2 : Steps p.tables e below (s₁.setTop (entryFrame m #[.ref b, .int (Int32.ofNat o), .ref d, .int (Int32.ofNat q), .int (Int32.ofNat len)] 7)) (s₁.setTop (mkF m 3 #[.val (.ref b), .val (.int (Int32.ofNat o)), .val (.ref d), .val (.int (Int32.ofNat q)), .val (.int (Int32.ofNat len)), .val (.int 0), .unset] [])) := c1.trans (by
    refine iconstV X0.here hexec rfl 0 (hb hbytes d0) (by decide) ?_
    refine XS.istore X0.here hexec rfl (hb hbytes d1) rfl rfl ?_
    exact Steps.refl _)
  have loop : ∀ (r i : Nat), i + r = len → ∀ (z : Slot), (z = .unset ∨ ∃ w, z = .val w ∧ w.category = 1) → ∀ (Tl : State) (Bk : Cell), Stand p l e { frames := 0, locals := 0, cells := 0, slots := 0 } s m #[.ref b, .int (Int32.ofNat o), .ref d, .int (Int32.ofNat q), .int (Int32.ofNat len)] below meth c Tl ([] ++ copyLocs d q i) 0 0 → Put d Bk s₁ Tl → Laid B Bk q (q + i) (fun j => Value.int (lo8 (cv A (o + (j - q))))) →
      Steps p.tables e below (s₁.setTop (entryFrame m #[.ref b, .int (Int32.ofNat o), .ref d, .int (Int32.ofNat q), .int (Int32.ofNat len)] 7)) (Tl.setTop (mkF m 3 #[.val (.ref b), .val (.int (Int32.ofNat (o + i))), .val (.ref d), .val (.int (Int32.ofNat (q + i))), .val (.int (Int32.ofNat len)), .val (.int (Int32.ofNat i)), z] [])) → ∃ (T' : State) (B' : Cell) (z' : Slot), Stand p l e { frames := 0, locals := 0, cells := 0, slots := 0 } s m #[.ref b, .int (Int32.ofNat o), .ref d, .int (Int32.ofNat q), .int (Int32.ofNat len)] below meth c T' ([] ++ copyLocs d q len) 0 0 ∧ Put d B' s₁ T' ∧ Laid B B' q (q + len) (fun j => Value.int (lo8 (cv A (o + (j - q))))) ∧
      Steps p.tables e below (s₁.setTop (entryFrame m #[.ref b, .int (Int32.ofNat o), .ref d, .int (Int32.ofNat q), .int (Int32.ofNat len)] 7)) (T'.setTop (mkF m 3 #[.val (.ref b), .val (.int (Int32.ofNat (o + len))), .val (.ref d), .val (.int (Int32.ofNat (q + len))), .val (.int (Int32.ofNat len)), .val (.int (Int32.ofNat len)), z'] [])) := by
    intro r
    induction r with
    | zero =>
      intro i hi z hz Tl Bk Xl pl fl cl
      have hil : i = len := by omega
      rw [hil] at Xl fl cl
      exact ⟨Tl, Bk, z, Xl, pl, fl, cl⟩
    | succ r ih =>
      intro i hi z hz Tl Bk Xl pl fl cl
      have all := X0.warmed.alike.symm.trans Xl.warmed.alike
      have hAl := hA0.keep all (pl.other hne hA0.1)
      have hBk := hB0.like all pl.1 fl.1 fl.2.1 fl.2.2.1
      have hlt : q + i < Bk.slots.size := by rw [fl.2.2.1]; omega
      have c3 : Steps p.tables e below (s₁.setTop (entryFrame m #[.ref b, .int (Int32.ofNat o), .ref d, .int (Int32.ofNat q), .int (Int32.ofNat len)] 7)) (Tl.setTop (mkF m 12 #[.val (.ref b), .val (.int (Int32.ofNat (o + i))), .val (.ref d), .val (.int (Int32.ofNat (q + i))), .val (.int (Int32.ofNat len)), .val (.int (Int32.ofNat i)), z] [.int (Int32.ofNat (o + i)), .ref b])) := cl.trans (by
        refine XS.iload Xl.here hexec rfl (hb hbytes d3) rfl ?_
        refine XS.iload Xl.here hexec rfl (hb hbytes d5) rfl ?_
        refine XS.icmpNo Xl.here hexec rfl (hb hbytes d7) rfl (ii_ge_f (lt32 (by omega) (by omega))) ?_
        refine XS.aloadN Xl.here hexec rfl (hb hbytes d10) rfl rfl ?_
        refine XS.iloadN Xl.here hexec rfl (hb hbytes d11) rfl ?_
        exact Steps.refl _)
      have c4 : Steps p.tables e below (s₁.setTop (entryFrame m #[.ref b, .int (Int32.ofNat o), .ref d, .int (Int32.ofNat q), .int (Int32.ofNat len)] 7)) (Tl.setTop (mkF m 13 #[.val (.ref b), .val (.int (Int32.ofNat (o + i))), .val (.ref d), .val (.int (Int32.ofNat (q + i))), .val (.int (Int32.ofNat len)), .val (.int (Int32.ofNat i)), z] [.int (cv A (o + i))])) := c3.trans (by
        refine Xl.aget hexec hAl rfl (hA.get (i := o + i) (by omega)) rfl rfl (hb hbytes d12) ?_
        exact Steps.refl _)
      have c5 : Steps p.tables e below (s₁.setTop (entryFrame m #[.ref b, .int (Int32.ofNat o), .ref d, .int (Int32.ofNat q), .int (Int32.ofNat len)] 7)) (Tl.setTop (mkF m 15 #[.val (.ref b), .val (.int (Int32.ofNat (o + i))), .val (.ref d), .val (.int (Int32.ofNat (q + i))), .val (.int (Int32.ofNat len)), .val (.int (Int32.ofNat i)), .val (.int (cv A (o + i)))] [])) := c4.trans (by
        refine XS.istoreS Xl.here hexec rfl (hb hbytes d13) rfl rfl hz ?_
        exact Steps.refl _)
      have c6 : Steps p.tables e below (s₁.setTop (entryFrame m #[.ref b, .int (Int32.ofNat o), .ref d, .int (Int32.ofNat q), .int (Int32.ofNat len)] 7)) (Tl.setTop (mkF m 31 #[.val (.ref b), .val (.int (Int32.ofNat (o + i))), .val (.ref d), .val (.int (Int32.ofNat (q + i))), .val (.int (Int32.ofNat len)), .val (.int (Int32.ofNat i)), .val (.int (cv A (o + i)))] [.int (lo8 (cv A (o + i))), .int (Int32.ofNat (q + i)), .ref d])) := c5.trans (by
        refine XS.iload Xl.here hexec rfl (hb hbytes d15) rfl ?_
        refine sipushV Xl.here hexec rfl 255 (hb hbytes d17) (by decide) ?_
        refine XS.icmpYes Xl.here hexec rfl (pc0 := 20) rfl (hb hbytes d20) rfl (ii_le_t (hp i (by omega))) (by decide) rfl ?_
        refine XS.aloadN Xl.here hexec rfl (hb hbytes d26) rfl rfl ?_
        refine XS.iloadN Xl.here hexec rfl (hb hbytes d27) rfl ?_
        refine XS.iload Xl.here hexec rfl (hb hbytes d28) rfl ?_
        refine i2b Xl.here hexec rfl (hb hbytes d30) rfl ?_
        exact Steps.refl _)
      obtain ⟨T7, X7, p7, st7⟩ := Xl.aput hexec hBk rfl hlt rfl (fits_lo8 (cv A (o + i))) (g := (mkF m 31 #[.val (.ref b), .val (.int (Int32.ofNat (o + i))), .val (.ref d), .val (.int (Int32.ofNat (q + i))), .val (.int (Int32.ofNat len)), .val (.int (Int32.ofNat i)), .val (.int (cv A (o + i)))] [.int (lo8 (cv A (o + i))), .int (Int32.ofNat (q + i)), .ref d])) rfl (rest := []) rfl (hb hbytes d31)
      have c8 : Steps p.tables e below (s₁.setTop (entryFrame m #[.ref b, .int (Int32.ofNat o), .ref d, .int (Int32.ofNat q), .int (Int32.ofNat len)] 7)) (T7.setTop (mkF m 32 #[.val (.ref b), .val (.int (Int32.ofNat (o + i))), .val (.ref d), .val (.int (Int32.ofNat (q + i))), .val (.int (Int32.ofNat len)), .val (.int (Int32.ofNat i)), .val (.int (cv A (o + i)))] [])) := c6.trans (st7 _ (Steps.refl _))
      have c9 : Steps p.tables e below (s₁.setTop (entryFrame m #[.ref b, .int (Int32.ofNat o), .ref d, .int (Int32.ofNat q), .int (Int32.ofNat len)] 7)) (T7.setTop (mkF m 3 #[.val (.ref b), .val (.int (Int32.ofNat (o + i) + 1)), .val (.ref d), .val (.int (Int32.ofNat (q + i) + 1)), .val (.int (Int32.ofNat len)), .val (.int (Int32.ofNat i + 1)), .val (.int (cv A (o + i)))] [])) := c8.trans (by
        refine iincV X7.here hexec rfl 1 (hb hbytes d32) (by decide) rfl rfl ?_
        refine iincV X7.here hexec rfl 1 (hb hbytes d35) (by decide) rfl rfl ?_
        refine iincV X7.here hexec rfl 1 (hb hbytes d38) (by decide) rfl rfl ?_
        refine XS.goto X7.here hexec rfl (pc0 := 41) rfl (hb hbytes d41) (by decide) rfl ?_
        exact Steps.refl _)
      have c10 : Steps p.tables e below (s₁.setTop (entryFrame m #[.ref b, .int (Int32.ofNat o), .ref d, .int (Int32.ofNat q), .int (Int32.ofNat len)] 7)) (T7.setTop (mkF m 3 #[.val (.ref b), .val (.int (Int32.ofNat (o + (i + 1)))), .val (.ref d), .val (.int (Int32.ofNat (q + (i + 1)))), .val (.int (Int32.ofNat len)), .val (.int (Int32.ofNat (i + 1))), .val (.int (cv A (o + i)))] [])) := by
        have := c9
        rw [succ32, succ32, succ32] at this
        exact this
      exact ih (i + 1) (by omega) _ (Or.inr ⟨_, rfl, rfl⟩) T7 _ (by rw [copyLocs_step, ← List.append_assoc]; exact X7) (pl.trans p7) (fl.step (by omega) hlt (by simp)) c10
  obtain ⟨T9, B9, z9, X9, p9, f9, g9⟩ := loop len 0 (by omega) .unset (Or.inl rfl) s₁ B (by simpa [copyLocs] using X0) ⟨hB0.1, fun _ _ => rfl, rfl⟩ (Laid.zero _ _ _) c2
  have c11 : Steps p.tables e below (s₁.setTop (entryFrame m #[.ref b, .int (Int32.ofNat o), .ref d, .int (Int32.ofNat q), .int (Int32.ofNat len)] 7)) (T9.setTop (mkF m 46 #[.val (.ref b), .val (.int (Int32.ofNat (o + len))), .val (.ref d), .val (.int (Int32.ofNat (q + len))), .val (.int (Int32.ofNat len)), .val (.int (Int32.ofNat len)), z9] [.int (Int32.ofNat len)])) := g9.trans (by
    refine XS.iload X9.here hexec rfl (hb hbytes d3) rfl ?_
    refine XS.iload X9.here hexec rfl (hb hbytes d5) rfl ?_
    refine XS.icmpYes X9.here hexec rfl (pc0 := 7) rfl (hb hbytes d7) rfl (ii_ge_t (nlt32 (by omega) (Nat.le_refl _))) (by decide) rfl ?_
    refine XS.iload X9.here hexec rfl (hb hbytes d44) rfl ?_
    exact Steps.refl _)
  exact ⟨T9, some (.int (Int32.ofNat len)), _, _, _, X9, by simp, rfl, rfl, (fun h => by cases h), ⟨rfl, B9, p9.from hh0, f9⟩, fun fs hl => c11.trans (X9.ireturnOut hexec hret rfl (Or.inl rfl) (hb hbytes d46) hl)⟩
end Cmp5
namespace Cmp3
def yN : MethodName := ⟨"java/lang/StringUTF16", "compress", "([CII)[B"⟩
abbrev yB : ByteArray := jdk_52_method_16_code
theorem d0 : decode yB 0 = .ok (.iload_n 2, 1) := by decide +kernel
theorem d1 : decode yB 1 = .ok (.newarray .byte, 2) := by decide +kernel
theorem d3 : decode yB 3 = .ok (.astore_n 3, 1) := by decide +kernel
theorem d4 : decode yB 4 = .ok (.aload_n 0, 1) := by decide +kernel
theorem d5 : decode yB 5 = .ok (.iload_n 1, 1) := by decide +kernel
theorem d6 : decode yB 6 = .ok (.aload_n 3, 1) := by decide +kernel
theorem d7 : decode yB 7 = .ok (.iconst 0, 1) := by decide +kernel
theorem d8 : decode yB 8 = .ok (.iload_n 2, 1) := by decide +kernel
theorem d9 : decode yB 9 = .ok (.invokestatic 115, 3) := by decide +kernel
theorem d12 : decode yB 12 = .ok (.istore 4, 2) := by decide +kernel
theorem d14 : decode yB 14 = .ok (.iload 4, 2) := by decide +kernel
theorem d16 : decode yB 16 = .ok (.iload_n 2, 1) := by decide +kernel
theorem d17 : decode yB 17 = .ok (.if_icmp (.eq) 40, 3) := by decide +kernel
theorem d57 : decode yB 57 = .ok (.aload_n 3, 1) := by decide +kernel
theorem d58 : decode yB 58 = .ok (.areturn, 1) := by decide +kernel
def site : List Cond := [.arrayClass .byte, Cmp5.tab] ++ staticW U16 115 Cmp5.yN
def tab : Cond := tabOf yN yB 6 (some (.array .byte)) site
def P (b : Addr) (A : Cell) (o len : Nat) (args : Array Value) (s : State) : Prop := args = #[.ref b, .int (Int32.ofNat o), .int (Int32.ofNat len)] ∧ Ch b A s ∧ o + len ≤ A.slots.size ∧ len ≤ 536870912 ∧ ∀ i, i < len → ¬ 255 < cv A (o + i)
def E (b : Addr) (A : Cell) (o len : Nat) (r : Option Value) (s u : State) : Prop := NewArr .byte "[B" len (fun j => .int (lo8 (cv A (o + j)))) r s u ∧ u.heap.size = s.heap.size + 1
/-- no char of the range above 255: a new byte[] of their low bytes -/
theorem law (l : Launch) (b : Addr) (A : Cell) (o len : Nat) : Law l yN 3 3 1 18 yB 6 (some (.array .byte)) site (P b A o len) (E b A o len) [] 1 len := by
  refine Law.of_walk (plainFor_of_name (by decide +kernel)) (by decide +kernel) (by decide +kernel) (by decide) (fun _ _ h => by rw [h.1]; rfl) (fun _ U U' hal hh h => ⟨h.1, h.2.1.mv hal hh, h.2.2⟩) (fun r U U' V V' h1 hal h2 h => ⟨NewArr.mv r U U' V V' h1 hal h2 h.1, by rw [h1, h2]; exact h.2⟩) ?_
  intro p e s m args below meth c s₁ X0 hexec hbytes hml hret hlk hnm hown hh0 W hP
  obtain ⟨rfl, hA, l1, l2, hp⟩ := hP
  have a31 := hA.1.2.2.2
  have c1 : Steps p.tables e below (s₁.setTop (entryFrame m #[.ref b, .int (Int32.ofNat o), .int (Int32.ofNat len)] 6)) (s₁.setTop (mkF m 0 #[.val (.ref b), .val (.int (Int32.ofNat o)), .val (.int (Int32.ofNat len)), .unset, .unset, .unset] [])) := entry rfl
  have c2 : Steps p.tables e below (s₁.setTop (entryFrame m #[.ref b, .int (Int32.ofNat o), .int (Int32.ofNat len)] 6)) (s₁.setTop (mkF m 1 #[.val (.ref b), .val (.int (Int32.ofNat o)), .val (.int (Int32.ofNat len)), .unset, .unset, .unset] [.int (Int32.ofNat len)])) := c1.trans (by
    refine XS.iloadN X0.here hexec rfl (hb hbytes d0) rfl ?_
    exact Steps.refl _)
  obtain ⟨T3, B3, X3, ba3, bs3, bv3, bh3, bf3, st3⟩ := X0.anew hexec (atype := .byte) (wk W (.arrayClass .byte)) rfl (by show len * 1 ≤ _; omega) (by omega) (g := (mkF m 1 #[.val (.ref b), .val (.int (Int32.ofNat o)), .val (.int (Int32.ofNat len)), .unset, .unset, .unset] [.int (Int32.ofNat len)])) rfl (hb hbytes d1) (rest := []) rfl (Nat.le_refl _) (by show 0 + len ≤ len; omega)
  rw [hh0] at ba3 st3
  have kp3 : XT.Kept s T3 := (XT.Kept.of_eq hh0).push bh3
  have hA3 := hA.keep X3.warmed.alike (kp3 _ _ hA.1.1)
  have hne : b ≠ s.heap.size := hA.1.ne
  have c4 : Steps p.tables e below (s₁.setTop (entryFrame m #[.ref b, .int (Int32.ofNat o), .int (Int32.ofNat len)] 6)) (T3.setTop (mkF m 3 #[.val (.ref b), .val (.int (Int32.ofNat o)), .val (.int (Int32.ofNat len)), .unset, .unset, .unset] [.ref s.heap.size])) := c2.trans (st3 _ (Steps.refl _))
  have c5 : Steps p.tables e below (s₁.setTop (entryFrame m #[.ref b, .int (Int32.ofNat o), .int (Int32.ofNat len)] 6)) (T3.setTop (mkF m 9 #[.val (.ref b), .val (.int (Int32.ofNat o)), .val (.int (Int32.ofNat len)), .val (.ref s.heap.size), .unset, .unset] [.int (Int32.ofNat len), .int 0, .ref s.heap.size, .int (Int32.ofNat o), .ref b])) := c4.trans (by
    refine XS.astoreN X3.here hexec rfl (hb hbytes d3) rfl rfl rfl ?_
    refine XS.aloadN X3.here hexec rfl (hb hbytes d4) rfl rfl ?_
    refine XS.iloadN X3.here hexec rfl (hb hbytes d5) rfl ?_
    refine XS.aloadN X3.here hexec rfl (hb hbytes d6) rfl rfl ?_
    refine iconstV X3.here hexec rfl 0 (hb hbytes d7) (by decide) ?_
    refine XS.iloadN X3.here hexec rfl (hb hbytes d8) rfl ?_
    exact Steps.refl _)
  obtain ⟨v6, T6, X6, E6, g6⟩ := X3.callS hexec (Cmp5.law l b A s.heap.size B3 o 0 len) hown (wks W (staticW U16 115 Cmp5.yN)) (wk W Cmp5.tab) (W := 0) (Nat.le_of_ble_eq_true rfl) (Nat.le_of_ble_eq_true rfl) (Nat.le_refl _) (by show 0 + len + 0 ≤ len; omega) (g := (mkF m 9 #[.val (.ref b), .val (.int (Int32.ofNat o)), .val (.int (Int32.ofNat len)), .val (.ref s.heap.size), .unset, .unset] [.int (Int32.ofNat len), .int (Int32.ofNat 0), .ref s.heap.size, .int (Int32.ofNat o), .ref b])) rfl (by rw [hml]; rfl) c5 (argsL := [.ref b, .int (Int32.ofNat o), .ref s.heap.size, .int (Int32.ofNat 0), .int (Int32.ofNat len)]) (rest := []) rfl rfl (by show 2 * 0 + 0 ≤ _; decide) (hb hbytes d9) (⟨rfl, hA3, ba3, hne, l1, by rw [bs3]; simp, hp⟩)
  obtain ⟨rfl, B6, p6, f6⟩ := E6
  have c7 : Steps p.tables e below (s₁.setTop (entryFrame m #[.ref b, .int (Int32.ofNat o), .int (Int32.ofNat len)] 6)) (T6.setTop (mkF m 12 #[.val (.ref b), .val (.int (Int32.ofNat o)), .val (.int (Int32.ofNat len)), .val (.ref s.heap.size), .unset, .unset] [.int (Int32.ofNat len)])) := g6
  have c8 : Steps p.tables e below (s₁.setTop (entryFrame m #[.ref b, .int (Int32.ofNat o), .int (Int32.ofNat len)] 6)) (T6.setTop (mkF m 58 #[.val (.ref b), .val (.int (Int32.ofNat o)), .val (.int (Int32.ofNat len)), .val (.ref s.heap.size), .val (.int (Int32.ofNat len)), .unset] [.ref s.heap.size])) := c7.trans (by
    refine XS.istore X6.here hexec rfl (hb hbytes d12) rfl rfl ?_
    refine XS.iload X6.here hexec rfl (hb hbytes d14) rfl ?_
    refine XS.iloadN X6.here hexec rfl (hb hbytes d16) rfl ?_
    refine XS.icmpYes X6.here hexec rfl (pc0 := 17) rfl (hb hbytes d17) rfl (ii_eq_t rfl) (by decide) rfl ?_
    refine XS.aloadN X6.here hexec rfl (hb hbytes d57) rfl rfl ?_
    exact Steps.refl _)
  have X8 := X6.wide (L' := []) (cells' := 1) (slots' := len) (fun x hx hlt => by
    simp only [List.nil_append, copyLocs, List.mem_map, List.mem_range] at hx
    obtain ⟨i, -, rfl⟩ := hx
    exact absurd hlt (Nat.lt_irrefl _)) (Nat.le_refl _) (by omega)
  exact ⟨T6, some (.ref s.heap.size), _, _, _, X8, rfl, rfl, rfl, (fun h => by cases h), ⟨⟨rfl, B6, ba3.like (X3.warmed.alike.symm.trans X6.warmed.alike) p6.1 f6.1 f6.2.1 f6.2.2.1, f6.2.1.trans bv3, by rw [X6.warmed.alike.findClass, f6.1]; exact bf3, by rw [f6.2.2.1, bs3]; simp, fun j hj => by rw [f6.2.2.2 j, if_pos (by omega)]; rfl, kp3.put p6 (Nat.le_refl _)⟩, by rw [p6.2.2, bh3, hh0]; simp⟩, fun fs hl => c8.trans (X8.areturnOut hexec rfl hret rfl (hb hbytes d58) hl)⟩
end Cmp3
namespace CodL
def yN : MethodName := ⟨"java/lang/StringUTF16", "coderFromArrayLen", "([BI)B"⟩
abbrev yB : ByteArray := jdk_52_method_15_code
theorem d0 : decode yB 0 = .ok (.iload_n 1, 1) := by decide +kernel
theorem d1 : decode yB 1 = .ok (.aload_n 0, 1) := by decide +kernel
theorem d2 : decode yB 2 = .ok (.arraylength, 1) := by decide +kernel
theorem d3 : decode yB 3 = .ok (.isub, 1) := by decide +kernel
theorem d4 : decode yB 4 = .ok (.bipush 31, 2) := by decide +kernel
theorem d6 : decode yB 6 = .ok (.iushr, 1) := by decide +kernel
theorem d7 : decode yB 7 = .ok (.i2b, 1) := by decide +kernel
theorem d8 : decode yB 8 = .ok (.ireturn, 1) := by decide +kernel
def site : List Cond := []
def tab : Cond := tabOf yN yB 2 (some .byte) site
def P (d : Addr) (B : Cell) (args : Array Value) (s : State) : Prop := args = #[.ref d, .int (Int32.ofNat B.slots.size)] ∧ Arr .byte d B s
def E (r : Option Value) (s u : State) : Prop := XT.PureE (some (.int 0)) r s u
/-- an array as long as the number of chars: LATIN1 -/
theorem law (l : Launch) (d : Addr) (B : Cell) : Law l yN 2 2 0 0 yB 2 (some .byte) site (P d B) E [] 0 0 := by
  refine Law.of_walk (plainFor_of_name (by decide +kernel)) (by decide +kernel) (by decide +kernel) (by decide) (fun _ _ h => by rw [h.1]; rfl) (fun _ U U' hal hh h => ⟨h.1, h.2.mv hal hh⟩) (fun r U U' V V' h1 hal h2 h => XT.PureE.mv r U U' V V' h1 hal h2 h) ?_
  intro p e s m args below meth c s₁ X0 hexec hbytes hml hret hlk hnm hown hh0 W hP
  obtain ⟨rfl, hB⟩ := hP
  have hB0 := hB.mv X0.warmed.alike hh0
  have c1 : Steps p.tables e below (s₁.setTop (entryFrame m #[.ref d, .int (Int32.ofNat B.slots.size)] 2)) (s₁.setTop (mkF m 0 #[.val (.ref d), .val (.int (Int32.ofNat B.slots.size))] [])) := entry rfl
  have c2 : Steps p.tables e below (s₁.setTop (entryFrame m #[.ref d, .int (Int32.ofNat B.slots.size)] 2)) (s₁.setTop (mkF m 2 #[.val (.ref d), .val (.int (Int32.ofNat B.slots.size))] [.ref d, .int (Int32.ofNat B.slots.size)])) := c1.trans (by
    refine XS.iloadN X0.here hexec rfl (hb hbytes d0) rfl ?_
    refine XS.aloadN X0.here hexec rfl (hb hbytes d1) rfl rfl ?_
    exact Steps.refl _)
  have c3 : Steps p.tables e below (s₁.setTop (entryFrame m #[.ref d, .int (Int32.ofNat B.slots.size)] 2)) (s₁.setTop (mkF m 8 #[.val (.ref d), .val (.int (Int32.ofNat B.slots.size))] [.int (lo8 (ushr (Int32.ofNat B.slots.size - Int32.ofNat B.slots.size) 31))])) := c2.trans (by
    refine X0.alen hexec hB0 rfl rfl (hb hbytes d2) ?_
    refine XS.isub X0.here hexec rfl (hb hbytes d3) rfl ?_
    refine bipushV X0.here hexec rfl 31 (hb hbytes d4) (by decide) ?_
    refine iushr X0.here hexec rfl (hb hbytes d6) rfl ?_
    refine i2b X0.here hexec rfl (hb hbytes d7) rfl ?_
    exact Steps.refl _)
  have e0 : lo8 (ushr (Int32.ofNat B.slots.size - Int32.ofNat B.slots.size) 31) = 0 := by rw [Int32.sub_self]; decide
  rw [e0] at c3
  exact ⟨s₁, some (.int 0), _, _, _, X0, rfl, rfl, rfl, (fun h => by cases h), ⟨rfl, hh0⟩, fun fs hl => c3.trans (X0.ireturnOut hexec hret rfl (Or.inr (Or.inr (Or.inl rfl))) (hb hbytes d8) hl)⟩
end CodL
/-- the String at a is Latin-1 over a new byte[] (the heap's one new cell): the low bytes of the len chars of A from o on; every cell but a is kept -/
def Got (a : Addr) (D : Cell) (fV fC : Field) (A : Cell) (o len : Nat) (r : Option Value) (s u : State) : Prop := r = none ∧ ∃ D' V : Cell, Blank "java/lang/String" a D' u ∧ Same D D' [fV.slot, fC.slot] ∧ D'.slots[fV.slot]? = some (.ref s.heap.size) ∧ D'.slots[fC.slot]? = some (.int 0) ∧ Arr .byte s.heap.size V u ∧ V.vm = .none ∧ u.vm.findClass "[B" = some V.cls ∧ V.slots.size = len ∧ (∀ j, j < len → V.slots[j]? = some (.int (lo8 (cv A (o + j))))) ∧ (∀ (y : Addr) (c : Cell), y ≠ a → s.heap[y]? = some c → u.heap[y]? = some c) ∧ u.heap.size = s.heap.size + 1
theorem Got.mv {a : Addr} {D A : Cell} {fV fC : Field} {o len : Nat} : ∀ r (U U' V V' : State), U'.heap = U.heap → V.vm.Alike V'.vm → V'.heap = V.heap → Got a D fV fC A o len r U V → Got a D fV fC A o len r U' V' :=
  fun r U U' V V' h1 hal h2 ⟨e0, D', X, a1, a2, a3, a4, a5, a6, a7, a8, a9, a10, a11⟩ => ⟨e0, D', X, a1.mv hal h2, a2, by rw [h1]; exact a3, a4, by rw [h1]; exact a5.mv hal h2, a6, by rw [hal.findClass]; exact a7, a8, a9, by rw [h1, h2]; exact a10, by rw [h1, h2]; exact a11⟩
namespace New4
def yN : MethodName := ⟨"java/lang/String", "<init>", "([CIILjava/lang/Void;)V"⟩
abbrev yB : ByteArray := jdk_42_method_149_code
theorem d0 : decode yB 0 = .ok (.aload_n 0, 1) := by decide +kernel
theorem d1 : decode yB 1 = .ok (.invokespecial 1, 3) := by decide +kernel
theorem d4 : decode yB 4 = .ok (.iload_n 3, 1) := by decide +kernel
theorem d5 : decode yB 5 = .ok (.ifCond (.ne) 22, 3) := by decide +kernel
theorem d27 : decode yB 27 = .ok (.getstatic 38, 3) := by decide +kernel
theorem d30 : decode yB 30 = .ok (.ifCond (.eq) 28, 3) := by decide +kernel
theorem d33 : decode yB 33 = .ok (.aload_n 1, 1) := by decide +kernel
theorem d34 : decode yB 34 = .ok (.iload_n 2, 1) := by decide +kernel
theorem d35 : decode yB 35 = .ok (.iload_n 3, 1) := by decide +kernel
theorem d36 : decode yB 36 = .ok (.invokestatic 177, 3) := by decide +kernel
theorem d39 : decode yB 39 = .ok (.astore 5, 2) := by decide +kernel
theorem d41 : decode yB 41 = .ok (.aload_n 0, 1) := by decide +kernel
theorem d42 : decode yB 42 = .ok (.aload 5, 2) := by decide +kernel
theorem d44 : decode yB 44 = .ok (.iload_n 3, 1) := by decide +kernel
theorem d45 : decode yB 45 = .ok (.invokestatic 47, 3) := by decide +kernel
theorem d48 : decode yB 48 = .ok (.putfield 15, 3) := by decide +kernel
theorem d51 : decode yB 51 = .ok (.aload_n 0, 1) := by decide +kernel
theorem d52 : decode yB 52 = .ok (.aload 5, 2) := by decide +kernel
theorem d54 : decode yB 54 = .ok (.putfield 9, 3) := by decide +kernel
theorem d57 : decode yB 57 = .ok (.return_, 1) := by decide +kernel
def site : List Cond := [.fieldLink "java/lang/String" 38 "java/lang/String" "COMPACT_STRINGS" "Z", Cmp3.tab, CodL.tab, .laysFinal "java/lang/String" "java/lang/String" "value" "[B", .fieldLink "java/lang/String" 9 "java/lang/String" "value" "[B", .laysFinal "java/lang/String" "java/lang/String" "coder" "B", .fieldLink "java/lang/String" 15 "java/lang/String" "coder" "B"] ++ objW "java/lang/String" 1 ++ staticW "java/lang/String" 177 Cmp3.yN ++ staticW "java/lang/String" 47 CodL.yN
def tab : Cond := tabOf yN yB 6 none site
def P (a : Addr) (D : Cell) (fV fC : Field) (b : Addr) (A : Cell) (z : Int32) (o len : Nat) (args : Array Value) (s : State) : Prop := args = #[.ref a, .ref b, .int (Int32.ofNat o), .int (Int32.ofNat len), .null] ∧ Blank "java/lang/String" a D s ∧ Found "java/lang/String" "value" "[B" fV s ∧ Found "java/lang/String" "coder" "B" fC s ∧ Ch b A s ∧ StaticIs s "java/lang/String" "COMPACT_STRINGS" "Z" (.int z) ∧ ¬ z = 0 ∧ 0 < len ∧ o + len ≤ A.slots.size ∧ len ≤ 536870912 ∧ ∀ i, i < len → ¬ 255 < cv A (o + i)
def E (a : Addr) (D : Cell) (fV fC : Field) (A : Cell) (o len : Nat) (r : Option Value) (s u : State) : Prop := Got a D fV fC A o len r s u
/-- len > 0, no char of the range above 255: a Latin-1 String of their low bytes -/
theorem law (l : Launch) (a : Addr) (D : Cell) (fV fC : Field) (b : Addr) (A : Cell) (z : Int32) (o len : Nat) : Law l yN 5 4 2 35 yB 6 none site (P a D fV fC b A z o len) (E a D fV fC A o len) [⟨a, fC.slot⟩, ⟨a, fV.slot⟩] 1 len := by
  refine Law.of_walk (plainFor_of_name (by decide +kernel)) (by decide +kernel) (by decide +kernel) (by decide) (fun _ _ h => by rw [h.1]; rfl) (fun _ U U' hal hh h => ⟨h.1, h.2.1.mv hal hh, h.2.2.1.al hal, h.2.2.2.1.al hal, h.2.2.2.2.1.mv hal hh, h.2.2.2.2.2.1.there hal hh, h.2.2.2.2.2.2⟩) (fun r U U' V V' h1 hal h2 h => Got.mv r U U' V V' h1 hal h2 h) ?_
  intro p e s m args below meth c s₁ X0 hexec hbytes hml hret hlk hnm hown hh0 W hP
  obtain ⟨rfl, hB, f1, f2, hA, s1, hz, l0, l1, l2, hp⟩ := hP
  have a31 := hA.1.2.2.2
  have c1 : Steps p.tables e below (s₁.setTop (entryFrame m #[.ref a, .ref b, .int (Int32.ofNat o), .int (Int32.ofNat len), .null] 6)) (s₁.setTop (mkF m 0 #[.val (.ref a), .val (.ref b), .val (.int (Int32.ofNat o)), .val (.int (Int32.ofNat len)), .val .null, .unset] [])) := entry rfl
  have c2 : Steps p.tables e below (s₁.setTop (entryFrame m #[.ref a, .ref b, .int (Int32.ofNat o), .int (Int32.ofNat len), .null] 6)) (s₁.setTop (mkF m 1 #[.val (.ref a), .val (.ref b), .val (.int (Int32.ofNat o)), .val (.int (Int32.ofNat len)), .val .null, .unset] [.ref a])) := c1.trans (by
    refine XS.aloadN X0.here hexec rfl (hb hbytes d0) rfl rfl ?_
    exact Steps.refl _)
  obtain ⟨T3, X3, q3, st3⟩ := X0.oinit hexec hown (wks W (objW "java/lang/String" 1)) (g := (mkF m 1 #[.val (.ref a), .val (.ref b), .val (.int (Int32.ofNat o)), .val (.int (Int32.ofNat len)), .val .null, .unset] [.ref a])) rfl (by rw [hml]; rfl) (rest := []) rfl (hb hbytes d1) (W := 0) (by show 2 * 0 + 0 ≤ _; decide) (Nat.le_of_ble_eq_true rfl) (Nat.le_of_ble_eq_true rfl)
  have hh3 := q3.trans hh0
  have c4 : Steps p.tables e below (s₁.setTop (entryFrame m #[.ref a, .ref b, .int (Int32.ofNat o), .int (Int32.ofNat len), .null] 6)) (T3.setTop (mkF m 27 #[.val (.ref a), .val (.ref b), .val (.int (Int32.ofNat o)), .val (.int (Int32.ofNat len)), .val .null, .unset] [])) := (c2.trans (st3 _ (Steps.refl _))).trans (by
    refine XS.iloadN X3.here hexec rfl (hb hbytes d4) rfl ?_
    refine XS.ifYes X3.here hexec rfl (pc0 := 5) rfl (hb hbytes d5) rfl (i0_ne_t (nz32 (by omega) l0)) (by decide) rfl ?_
    exact Steps.refl _)
  obtain ⟨T5, X5, q5, st5⟩ := X3.sget hexec hown (wk W (.fieldLink "java/lang/String" 38 "java/lang/String" "COMPACT_STRINGS" "Z")) s1 (fun _ _ h => by rw [hh3]; exact h) (g := (mkF m 27 #[.val (.ref a), .val (.ref b), .val (.int (Int32.ofNat o)), .val (.int (Int32.ofNat len)), .val .null, .unset] [])) rfl (hb hbytes d27)
  have hh5 := q5.trans hh3
  have c6 : Steps p.tables e below (s₁.setTop (entryFrame m #[.ref a, .ref b, .int (Int32.ofNat o), .int (Int32.ofNat len), .null] 6)) (T5.setTop (mkF m 30 #[.val (.ref a), .val (.ref b), .val (.int (Int32.ofNat o)), .val (.int (Int32.ofNat len)), .val .null, .unset] [.int z])) := c4.trans (st5 _ (Steps.refl _))
  have c7 : Steps p.tables e below (s₁.setTop (entryFrame m #[.ref a, .ref b, .int (Int32.ofNat o), .int (Int32.ofNat len), .null] 6)) (T5.setTop (mkF m 36 #[.val (.ref a), .val (.ref b), .val (.int (Int32.ofNat o)), .val (.int (Int32.ofNat len)), .val .null, .unset] [.int (Int32.ofNat len), .int (Int32.ofNat o), .ref b])) := c6.trans (by
    refine XS.ifNo X5.here hexec rfl (hb hbytes d30) rfl (i0_eq_f hz) ?_
    refine XS.aloadN X5.here hexec rfl (hb hbytes d33) rfl rfl ?_
    refine XS.iloadN X5.here hexec rfl (hb hbytes d34) rfl ?_
    refine XS.iloadN X5.here hexec rfl (hb hbytes d35) rfl ?_
    exact Steps.refl _)
  obtain ⟨v8, T8, X8, E8, g8⟩ := X5.callS hexec (Cmp3.law l b A o len) hown (wks W (staticW "java/lang/String" 177 Cmp3.yN)) (wk W Cmp3.tab) (W := 0) (Nat.le_of_ble_eq_true rfl) (Nat.le_of_ble_eq_true rfl) (Nat.le_refl _) (by show 0 + len ≤ len; omega) (g := (mkF m 36 #[.val (.ref a), .val (.ref b), .val (.int (Int32.ofNat o)), .val (.int (Int32.ofNat len)), .val .null, .unset] [.int (Int32.ofNat len), .int (Int32.ofNat o), .ref b])) rfl (by rw [hml]; rfl) c7 (argsL := [.ref b, .int (Int32.ofNat o), .int (Int32.ofNat len)]) (rest := []) rfl rfl (by show 2 * 0 + 0 ≤ _; decide) (hb hbytes d36) (⟨rfl, hA.mv X5.warmed.alike hh5, l1, l2, hp⟩)
  obtain ⟨e8, z8⟩ := E8
  obtain ⟨rfl, N, n1, n2, n3, n4, n5, n6⟩ := NewArr.mv _ T5 s _ _ hh5.symm (Vm.Alike.refl _) rfl e8
  rw [hh5] at z8
  have hB1 := hB.keep X8.warmed.alike (n6 _ _ hB.1)
  have hne : s.heap.size ≠ a := (Nat.ne_of_lt (Array.getElem?_eq_some_iff.mp hB.1).1).symm
  have c9 : Steps p.tables e below (s₁.setTop (entryFrame m #[.ref a, .ref b, .int (Int32.ofNat o), .int (Int32.ofNat len), .null] 6)) (T8.setTop (mkF m 39 #[.val (.ref a), .val (.ref b), .val (.int (Int32.ofNat o)), .val (.int (Int32.ofNat len)), .val .null, .unset] [.ref s.heap.size])) := g8
  have c10 : Steps p.tables e below (s₁.setTop (entryFrame m #[.ref a, .ref b, .int (Int32.ofNat o), .int (Int32.ofNat len), .null] 6)) (T8.setTop (mkF m 45 #[.val (.ref a), .val (.ref b), .val (.int (Int32.ofNat o)), .val (.int (Int32.ofNat len)), .val .null, .val (.ref s.heap.size)] [.int (Int32.ofNat N.slots.size), .ref s.heap.size, .ref a])) := by
    have hc : Steps p.tables e below (s₁.setTop (entryFrame m #[.ref a, .ref b, .int (Int32.ofNat o), .int (Int32.ofNat len), .null] 6)) (T8.setTop (mkF m 45 #[.val (.ref a), .val (.ref b), .val (.int (Int32.ofNat o)), .val (.int (Int32.ofNat len)), .val .null, .val (.ref s.heap.size)] [.int (Int32.ofNat len), .ref s.heap.size, .ref a])) := c9.trans (by
      refine XS.astore X8.here hexec rfl (hb hbytes d39) rfl rfl rfl ?_
      refine XS.aloadN X8.here hexec rfl (hb hbytes d41) rfl rfl ?_
      refine XS.aload X8.here hexec rfl (hb hbytes d42) rfl rfl ?_
      refine XS.iloadN X8.here hexec rfl (hb hbytes d44) rfl ?_
      exact Steps.refl _)
    rw [n4]; exact hc
  obtain ⟨v11, T11, X11, E11, g11⟩ := X8.callS hexec (CodL.law l s.heap.size N) hown (wks W (staticW "java/lang/String" 47 CodL.yN)) (wk W CodL.tab) (W := 1) (Nat.le_of_ble_eq_true rfl) (Nat.le_of_ble_eq_true rfl) (Nat.le_refl _) (by show 0 + len + 0 ≤ len; omega) (g := (mkF m 45 #[.val (.ref a), .val (.ref b), .val (.int (Int32.ofNat o)), .val (.int (Int32.ofNat len)), .val .null, .val (.ref s.heap.size)] [.int (Int32.ofNat N.slots.size), .ref s.heap.size, .ref a])) rfl (by rw [hml]; rfl) c10 (argsL := [.ref s.heap.size, .int (Int32.ofNat N.slots.size)]) (rest := [.ref a]) rfl rfl (by show 2 * 0 + (1 + 0) ≤ _; decide) (hb hbytes d45) (⟨rfl, n1⟩)
  obtain ⟨rfl, q11⟩ := E11
  have hB11 := hB1.mv (X8.warmed.alike.symm.trans X11.warmed.alike) q11
  have c12 : Steps p.tables e below (s₁.setTop (entryFrame m #[.ref a, .ref b, .int (Int32.ofNat o), .int (Int32.ofNat len), .null] 6)) (T11.setTop (mkF m 48 #[.val (.ref a), .val (.ref b), .val (.int (Int32.ofNat o)), .val (.int (Int32.ofNat len)), .val .null, .val (.ref s.heap.size)] [.int 0, .ref a])) := g11
  obtain ⟨T13, X13, p13, bl13, sl13, st13⟩ := X11.finit hexec hown (wk W (.fieldLink "java/lang/String" 15 "java/lang/String" "coder" "B")) (Or.inr ⟨_, (wk W (.laysFinal "java/lang/String" "java/lang/String" "coder" "B"))⟩) (Or.inl ⟨rfl, hnm⟩) f2 (Or.inl rfl) hB11 (t := .byte) (by decide +kernel) rfl (g := (mkF m 48 #[.val (.ref a), .val (.ref b), .val (.int (Int32.ofNat o)), .val (.int (Int32.ofNat len)), .val .null, .val (.ref s.heap.size)] [.int 0, .ref a])) rfl (rest := []) rfl (hb hbytes d48)
  have c14 : Steps p.tables e below (s₁.setTop (entryFrame m #[.ref a, .ref b, .int (Int32.ofNat o), .int (Int32.ofNat len), .null] 6)) (T13.setTop (mkF m 54 #[.val (.ref a), .val (.ref b), .val (.int (Int32.ofNat o)), .val (.int (Int32.ofNat len)), .val .null, .val (.ref s.heap.size)] [.ref s.heap.size, .ref a])) := (c12.trans (st13 _ (Steps.refl _))).trans (by
    refine XS.aloadN X13.here hexec rfl (hb hbytes d51) rfl rfl ?_
    refine XS.aload X13.here hexec rfl (hb hbytes d52) rfl rfl ?_
    exact Steps.refl _)
  obtain ⟨T15, X15, p15, bl15, sl15, st15⟩ := X13.finit hexec hown (wk W (.fieldLink "java/lang/String" 9 "java/lang/String" "value" "[B")) (Or.inr ⟨_, (wk W (.laysFinal "java/lang/String" "java/lang/String" "value" "[B"))⟩) (Or.inl ⟨rfl, hnm⟩) f1 (Or.inl rfl) bl13 (t := (.array .byte)) (by decide +kernel) rfl (g := (mkF m 54 #[.val (.ref a), .val (.ref b), .val (.int (Int32.ofNat o)), .val (.int (Int32.ofNat len)), .val .null, .val (.ref s.heap.size)] [.ref s.heap.size, .ref a])) rfl (rest := []) rfl (hb hbytes d54)
  have c16 : Steps p.tables e below (s₁.setTop (entryFrame m #[.ref a, .ref b, .int (Int32.ofNat o), .int (Int32.ofNat len), .null] 6)) (T15.setTop (mkF m 57 #[.val (.ref a), .val (.ref b), .val (.int (Int32.ofNat o)), .val (.int (Int32.ofNat len)), .val .null, .val (.ref s.heap.size)] [])) := c14.trans (st15 _ (Steps.refl _))
  have ap := apart (Or.inr ⟨_, (wk W (.laysFinal "java/lang/String" "java/lang/String" "value" "[B"))⟩) (Or.inr ⟨_, (wk W (.laysFinal "java/lang/String" "java/lang/String" "coder" "B"))⟩) f1 f2 (t₁ := .array .byte) (t₂ := .byte) (by decide +kernel) (by decide +kernel) (by decide)
  have al := X8.warmed.alike.symm.trans X15.warmed.alike
  have n7 : T11.heap[s.heap.size]? = some N := by rw [q11]; exact n1.1
  exact ⟨T15, none, _, _, _, X15, by simp, rfl, by omega, (fun _ => rfl), ⟨rfl, _, N, bl15, ((Same.refl D _).set _ (by simp)).set _ (by simp), sl15, (Cell.slots_setSlot_ne _ ap).trans sl13, n1.keep al (p15.other hne (p13.other hne n7)), n2, by rw [al.findClass]; exact n3, n4, n5, fun y c h1 h2 => p15.other h1 (p13.other h1 (by rw [q11]; exact n6 y c h2)), by rw [p15.2.2, p13.2.2, q11]; exact z8⟩, fun fs hl => c16.trans (X15.returnOut hexec hret (hb hbytes d57) hl)⟩
end New4
namespace New1
def yN : MethodName := ⟨"java/lang/String", "<init>", "([C)V"⟩
abbrev yB : ByteArray := jdk_42_method_3_code
theorem d0 : decode yB 0 = .ok (.aload_n 0, 1) := by decide +kernel
theorem d1 : decode yB 1 = .ok (.aload_n 1, 1) := by decide +kernel
theorem d2 : decode yB 2 = .ok (.iconst 0, 1) := by decide +kernel
theorem d3 : decode yB 3 = .ok (.aload_n 1, 1) := by decide +kernel
theorem d4 : decode yB 4 = .ok (.arraylength, 1) := by decide +kernel
theorem d5 : decode yB 5 = .ok (.aconst_null, 1) := by decide +kernel
theorem d6 : decode yB 6 = .ok (.invokespecial 27, 3) := by decide +kernel
theorem d9 : decode yB 9 = .ok (.return_, 1) := by decide +kernel
def site : List Cond := [New4.tab] ++ initW "java/lang/String" 27 New4.yN
def tab : Cond := tabOf yN yB 2 none site
def P (a : Addr) (D : Cell) (fV fC : Field) (b : Addr) (A : Cell) (z : Int32) (args : Array Value) (s : State) : Prop := args = #[.ref a, .ref b] ∧ Blank "java/lang/String" a D s ∧ Found "java/lang/String" "value" "[B" fV s ∧ Found "java/lang/String" "coder" "B" fC s ∧ Ch b A s ∧ StaticIs s "java/lang/String" "COMPACT_STRINGS" "Z" (.int z) ∧ ¬ z = 0 ∧ 0 < A.slots.size ∧ A.slots.size ≤ 536870912 ∧ ∀ i, i < A.slots.size → ¬ 255 < cv A i
def E (a : Addr) (D : Cell) (fV fC : Field) (A : Cell) (r : Option Value) (s u : State) : Prop := Got a D fV fC A 0 A.slots.size r s u
/-- new String(chars), not empty, no char above 255: a Latin-1 String of their low bytes -/
theorem law (l : Launch) (a : Addr) (D : Cell) (fV fC : Field) (b : Addr) (A : Cell) (z : Int32) : Law l yN 2 1 3 52 yB 2 none site (P a D fV fC b A z) (E a D fV fC A) [⟨a, fC.slot⟩, ⟨a, fV.slot⟩] 1 A.slots.size := by
  refine Law.of_walk (plainFor_of_name (by decide +kernel)) (by decide +kernel) (by decide +kernel) (by decide) (fun _ _ h => by rw [h.1]; rfl) (fun _ U U' hal hh h => ⟨h.1, h.2.1.mv hal hh, h.2.2.1.al hal, h.2.2.2.1.al hal, h.2.2.2.2.1.mv hal hh, h.2.2.2.2.2.1.there hal hh, h.2.2.2.2.2.2⟩) (fun r U U' V V' h1 hal h2 h => Got.mv r U U' V V' h1 hal h2 h) ?_
  intro p e s m args below meth c s₁ X0 hexec hbytes hml hret hlk hnm hown hh0 W hP
  obtain ⟨rfl, hB, f1, f2, hA, s1, hz, l0, l2, hp⟩ := hP
  have c1 : Steps p.tables e below (s₁.setTop (entryFrame m #[.ref a, .ref b] 2)) (s₁.setTop (mkF m 0 #[.val (.ref a), .val (.ref b)] [])) := entry rfl
  have c2 : Steps p.tables e below (s₁.setTop (entryFrame m #[.ref a, .ref b] 2)) (s₁.setTop (mkF m 6 #[.val (.ref a), .val (.ref b)] [.null, .int (Int32.ofNat A.slots.size), .int 0, .ref b, .ref a])) := c1.trans (by
    refine XS.aloadN X0.here hexec rfl (hb hbytes d0) rfl rfl ?_
    refine XS.aloadN X0.here hexec rfl (hb hbytes d1) rfl rfl ?_
    refine iconstV X0.here hexec rfl 0 (hb hbytes d2) (by decide) ?_
    refine XS.aloadN X0.here hexec rfl (hb hbytes d3) rfl rfl ?_
    refine X0.alen hexec (hA.1.mv X0.warmed.alike hh0) rfl rfl (hb hbytes d4) ?_
    refine XS.aconstNull X0.here hexec rfl (hb hbytes d5) ?_
    exact Steps.refl _)
  obtain ⟨v3, T3, X3, E3, g3⟩ := X0.callN hexec (New4.law l a D fV fC b A z 0 A.slots.size) rfl hown (wks W (initW "java/lang/String" 27 New4.yN)) (W New4.tab (by simp only [site, List.mem_cons, List.mem_append, true_or, or_true])) (W := 0) (Nat.le_of_ble_eq_true rfl) (Nat.le_of_ble_eq_true rfl) (Nat.le_refl _) (by show 0 + A.slots.size ≤ A.slots.size; omega) (g := (mkF m 6 #[.val (.ref a), .val (.ref b)] [.null, .int (Int32.ofNat A.slots.size), .int (Int32.ofNat 0), .ref b, .ref a])) rfl (by rw [hml]; rfl) c2 (argsL := [.ref b, .int (Int32.ofNat 0), .int (Int32.ofNat A.slots.size), .null]) (rest := []) rfl rfl (by show 2 * 0 + 0 ≤ _; decide) (hb hbytes d6) (⟨rfl, hB.mv X0.warmed.alike hh0, f1.al X0.warmed.alike, f2.al X0.warmed.alike, hA.mv X0.warmed.alike hh0, s1.there X0.warmed.alike hh0, hz, l0, by omega, l2, fun i hi => by rw [Nat.zero_add]; exact hp i hi⟩)
  have e0 := Got.mv _ s₁ s _ _ hh0.symm (Vm.Alike.refl _) rfl E3
  obtain rfl := e0.1
  have c4 : Steps p.tables e below (s₁.setTop (entryFrame m #[.ref a, .ref b] 2)) (T3.setTop (mkF m 9 #[.val (.ref a), .val (.ref b)] [])) := g3
  exact ⟨T3, none, _, _, _, X3, by simp, rfl, by omega, (fun _ => rfl), e0, fun fs hl => c4.trans (X3.returnOut hexec hret (hb hbytes d9) hl)⟩
theorem pays {l : Launch} {R : Room} {p : Program} {e : Env} {below : List Frame} {s : State} {sargs : Array Value} {len W : Nat} (a : Addr) (D : Cell) (fV fC : Field) (b : Addr) (A : Cell) (z : Int32) (htab : tab.before sargs s = true) (hfr : 4 ≤ R.frames) (hlo : W + 65 ≤ R.locals) :
    Back l R p e below s sargs yN len W (fun A₁ a₁ => A₁.cells + 1 ≤ R.cells ∧ A₁.slots + A.slots.size ≤ R.slots ∧ P a D fV fC b A z a₁ A₁.U) (fun A₁ _ v₁ B₁ => E a D fV fC A v₁ A₁.U B₁.U ∧ B₁.locs = A₁.locs ++ [⟨a, fC.slot⟩, ⟨a, fV.slot⟩] ∧ B₁.cells = A₁.cells + 1 ∧ B₁.slots = A₁.slots + A.slots.size) :=
  (law l a D fV fC b A z).pays htab hfr (by omega)
end New1
end StrChars
namespace StrChars.Road
open Jvm Sem ClassFile Op Lib Jvm.Stand Jvm.Free Jvm.Free.XT
open Jvm.Lib.Cold (StaticIs)
abbrev ST : String := "java/lang/String"
/-- every table word that New1's law asks, flat -/
abbrev words : List Jvm.Cond := [.code New1.yN New1.yB 2 none, .initialized ST, .methodLink ST 27 New4.yN, .instanceMethod New4.yN,
  .code New4.yN New4.yB 6 none, .fieldLink ST 38 ST "COMPACT_STRINGS" "Z", .laysFinal ST ST "value" "[B", .fieldLink ST 9 ST "value" "[B", .laysFinal ST ST "coder" "B", .fieldLink ST 15 ST "coder" "B",
  .methodLink ST 1 Lib.objectInit, .instanceMethod Lib.objectInit, .code Lib.objectInit ⟨#[0xb1]⟩ 1 none, .methodLink ST 177 Cmp3.yN, .static Cmp3.yN, .methodLink ST 47 CodL.yN, .static CodL.yN,
  .code Cmp3.yN Cmp3.yB 6 (some (.array .byte)), .initialized U16, .arrayClass .byte, .methodLink U16 115 Cmp5.yN, .static Cmp5.yN, .code Cmp5.yN Cmp5.yB 7 (some .int), .code CodL.yN CodL.yB 2 (some .byte)]
theorem tab_of {a : Array Value} {s : State} (h : ∀ w ∈ words, w.before a s = true) : New1.tab.before a s = true := by
  have h5 : Cmp5.tab.before a s = true := unparts (wk h (.code Cmp5.yN Cmp5.yB 7 (some .int))) (wks h (.initialized Cmp5.yN.cls :: Cmp5.site))
  have hc : CodL.tab.before a s = true := unparts (wk h (.code CodL.yN CodL.yB 2 (some .byte))) (wks h (.initialized CodL.yN.cls :: CodL.site))
  have q5 : ∀ w ∈ Cmp5.tab :: words, w.before a s = true := fun w hw => (List.mem_cons.mp hw).elim (fun e => e ▸ h5) (h w)
  have h3 : Cmp3.tab.before a s = true := unparts (wk q5 (.code Cmp3.yN Cmp3.yB 6 (some (.array .byte)))) (wks q5 (.initialized Cmp3.yN.cls :: Cmp3.site))
  have q3 : ∀ w ∈ Cmp3.tab :: CodL.tab :: words, w.before a s = true := fun w hw => (List.mem_cons.mp hw).elim (fun e => e ▸ h3) fun hw => (List.mem_cons.mp hw).elim (fun e => e ▸ hc) (h w)
  have h4 : New4.tab.before a s = true := unparts (wk q3 (.code New4.yN New4.yB 6 none)) (wks q3 (.initialized New4.yN.cls :: New4.site))
  have q4 : ∀ w ∈ New4.tab :: words, w.before a s = true := fun w hw => (List.mem_cons.mp hw).elim (fun e => e ▸ h4) (h w)
  exact unparts (wk q4 (.code New1.yN New1.yB 2 none)) (wks q4 (.initialized New1.yN.cls :: New1.site))
/-- the words ride from the start Z to the walk's own state -/
theorem moved {Z s : State} {a0 args : Array Value} (hZ : Z.Warmed39 s.vm) (hw : ∀ d ∈ words, d.before a0 Z = true) : ∀ d ∈ words, d.before args s = true := fun d hd => by
  have q := hw d hd
  have t : ∀ d ∈ words, d = .arrayClass .byte ∨ (d.onTables && d.keepsFace) = true := by decide +kernel
  rcases t d hd with rfl | t
  · exact RoadKit.mvA hZ q
  · exact RoadKit.mv hZ q t
/-- WHAT COMES BACK, over the tables of the start Z: h the heap at the call, h' behind it -/
def Q (Z : State) (x : Addr) (A : Cell) (h : Heap) (v : Option Value) (h' : Heap) (L : List Loc) : Prop := v = none ∧ (∀ y ∈ L, y.base = x) ∧ RoadKit.Keep h h' [x] ∧ h'.size = h.size + 1 ∧ RoadKit.Exa Z h' x ST ∧ RoadKit.Fld Z h' x ST "value" "[B" (.ref h.size) ∧ RoadKit.Fld Z h' x ST "coder" "B" (.int 0) ∧
  (∃ V : Cell, RoadKit.Arr Z h' h.size V .byte ∧ V.vm = .none ∧ Z.vm.findClass "[B" = some V.cls ∧ V.slots.size = A.slots.size ∧ ∀ j, j < A.slots.size → V.slots[j]? = some (.int (lo8 (cv A j)))) ∧
  ∀ (O n d : String) (w : Value), RoadKit.Fld Z h x O n d w → RoadKit.slotOf Z O n d ≠ RoadKit.slotOf Z ST "value" "[B" → RoadKit.slotOf Z O n d ≠ RoadKit.slotOf Z ST "coder" "B" → RoadKit.Fld Z h' x O n d w
/-- **new String(chars) AT A CALL, IN THE ROAD'S FORM**: for specialBack behind newO: x the fresh String, b the char[] with the cell A -/
theorem back {p : Program} {l : Launch} {e : Env} {R : Room} {s : State} {args : Array Value} {below : List Frame} {len W : Nat} {Z : State} {a0 : Array Value} {h : Heap} (hZ : Z.Warmed39 s.vm) (hw : ∀ d ∈ words, d.before a0 Z = true) {kI : Nat} (wi : (Jvm.Cond.instantiable ST kI).before a0 Z = true)
    {x b : Addr} {A : Cell} {z : Int32} {v0 c0 : Value} (E : RoadKit.Exa Z h x ST) (V : RoadKit.Fld Z h x ST "value" "[B" v0) (C : RoadKit.Fld Z h x ST "coder" "B" c0) (K : RoadKit.Arr Z h b A .char) (hty : Typed .char A) (S : RoadKit.Sta Z h ST "COMPACT_STRINGS" "Z" (.int z)) (hz : ¬ z = 0)
    (l0 : 0 < A.slots.size) (l2 : A.slots.size ≤ 536870912) (hp : ∀ i, i < A.slots.size → ¬ 255 < cv A i) (hfr : 4 ≤ R.frames) (hlo : W + 65 ≤ R.locals) :
    Back l R p e below s args New1.yN len W (fun P a => a = #[.ref x, .ref b] ∧ P.U.heap = h ∧ P.cells + 1 ≤ R.cells ∧ P.slots + A.slots.size ≤ R.slots)
      (fun P _ v B => ∃ L, Q Z x A h v B.U.heap L ∧ B.locs = P.locs ++ L ∧ B.cells = P.cells + 1 ∧ B.slots = P.slots + A.slots.size) := by
  intro m meth c P g ig mk a X hg hsize hdg hW hn hp'
  obtain ⟨rfl, rfl, r1, r2⟩ := hp'
  have al : Z.vm.Alike P.U.vm := hZ.alike.trans X.warmed.alike
  obtain ⟨D, cfV, kV, iV, fV, hD, gV, stV, knV, obV, asV, slV⟩ := id V
  obtain ⟨D', cfC, kC, iC, fC, hD', gC, stC, -, -, asC, slC⟩ := id C
  cases hD.symm.trans hD'
  obtain ⟨D2, kD, e1, e2, e3, e4, e5⟩ := id E
  cases hD.symm.trans e1
  obtain ⟨c2, k2, i1, i2, i3, -⟩ := Cond.instantiable_spec wi
  cases e2.symm.trans i1
  cases e3.symm.trans i2
  obtain ⟨kU, u1, u2⟩ := al.2.2 _ _ e3
  have hB : Blank ST x D P.U := ⟨hD, ⟨knV, fun q hq => by rw [hq] at obV; cases obV⟩, by rw [al.findClass]; exact e2, kU, u1, by rw [u2]; exact i3, by rw [u2]; exact e5 i3⟩
  have F1 : Found ST "value" "[B" fV P.U := ⟨SBG.found_only al ⟨cfV, kV, iV, gV⟩, stV⟩
  have F2 : Found ST "coder" "B" fC P.U := ⟨SBG.found_only al ⟨cfC, kC, iC, gC⟩, stC⟩
  have hA : Ch b A P.U := ⟨⟨K.1, State.isArrayOf_alike al K.2.1, K.2.2, by omega⟩, hty⟩
  have hS : StaticIs P.U ST "COMPACT_STRINGS" "Z" (.int z) := by
    obtain ⟨cfS, iS, kS, fS, st, cS, t1, t2, t3, t4, t5, t6, t7⟩ := S
    exact StaticIs.there (s := { Z with heap := P.U.heap }) ⟨cfS, iS, kS, fS, st, cS, t1, t2, t3, t4, t5, (fun q => by rw [q] at t6; cases t6), t7⟩ al rfl
  obtain ⟨v, B, X', ⟨⟨hv, E', V', q1, q2, q3, q4, q5, q6, q7, q8, q9, q10, q11⟩, hl, hc, hs⟩, st⟩ := New1.pays x D fV fC b A z (tab_of (moved hZ hw)) hfr hlo m meth c P g ig mk _ X hg hsize hdg hW hn ⟨r1, r2, rfl, hB, F1, F2, hA, hS, hz, l0, l2, hp⟩
  have al' : Z.vm.Alike B.U.vm := hZ.alike.trans X'.warmed.alike
  have hsz : E'.slots.size = D.slots.size := by
    obtain ⟨-, -, -, kB, w1, w2, w3⟩ := q1
    obtain ⟨kB', y1, y2⟩ := al'.2.2 _ _ e3
    rw [q2.2.1] at w1
    cases w1.symm.trans y1
    rw [w3, e5 i3, y2]
  refine ⟨v, B, X', ⟨_, ⟨hv, ?_, ⟨by omega, fun y cy hy hn' => q10 y cy (by simpa using hn') hy, fun y cy hy => ?_⟩, q11, ⟨E', _, q1.1, by rw [q2.2.1]; exact e2, by rw [q2.2.1]; exact e3, by rw [q2.1]; exact obV, fun _ => by rw [hsz]; exact e5 i3⟩,
    ⟨E', cfV, kV, iV, fV, q1.1, gV, stV, by rw [q2.1]; exact knV, by rw [q2.1]; exact obV, by rw [q2.2.1]; exact asV, q3⟩, ⟨E', cfC, kC, iC, fC, q1.1, gC, stC, by rw [q2.1]; exact knV, by rw [q2.1]; exact obV, by rw [q2.2.1]; exact asC, q4⟩,
    ⟨V', ⟨q5.1, State.isArrayOf_alike al'.symm q5.2.1, q5.2.2.1⟩, q6, by rw [← al'.findClass]; exact q7, q8, fun j hj => by have := q9 j hj; rwa [Nat.zero_add] at this⟩, fun O n d w F n1 n2 => ?_⟩, hl, hc, hs⟩, st⟩
  · intro y hy
    simp only [List.mem_cons, List.not_mem_nil, or_false] at hy
    rcases hy with rfl | rfl <;> rfl
  · by_cases q : y = x
    · subst q
      cases hD.symm.trans hy
      exact ⟨E', q1.1, q2.2.1, q2.1, hsz⟩
    · exact ⟨cy, q10 y cy q hy, rfl, rfl, rfl⟩
  · obtain ⟨D3, cf, k, i, f, g1, g2, g3, g4, g5, g6, g7⟩ := F
    cases hD.symm.trans g1
    simp only [RoadKit.slotOf, g2, gV, gC, Option.map_some, Option.getD_some] at n1 n2
    exact ⟨E', cf, k, i, f, q1.1, g2, g3, by rw [q2.1]; exact g4, by rw [q2.1]; exact g5, by rw [q2.2.1]; exact g6, by rw [q2.2.2 f.slot (by simp [n1, n2])]; exact g7⟩
end StrChars.Road
namespace StrChars.Road
open Jvm Sem ClassFile Op Lib Jvm.Stand Jvm.Free Jvm.Free.XT
/-- WHAT COMES BACK, the byte[] as a list of values -/
def QA (Z : State) (x : Addr) (zn : Int32) (cs : List Int32) (h : Heap) (v : Option Value) (h' : Heap) (L : List Loc) : Prop := v = none ∧ (∀ y ∈ L, y.base = x) ∧ RoadKit.Keep h h' [x] ∧ h'.size = h.size + 1 ∧ RoadKit.Exa Z h' x ST ∧ RoadKit.Fld Z h' x ST "value" "[B" (.ref h.size) ∧ RoadKit.Fld Z h' x ST "coder" "B" (.int 0) ∧
  (∃ kb, Z.vm.findClass "[B" = some kb ∧ RoadKit.Arv Z h' h.size kb .byte zn (cs.map fun c => .int (lo8 c)) (.int 0)) ∧
  ∀ (O n d : String) (w : Value), RoadKit.Fld Z h x O n d w → RoadKit.slotOf Z O n d ≠ RoadKit.slotOf Z ST "value" "[B" → RoadKit.slotOf Z O n d ≠ RoadKit.slotOf Z ST "coder" "B" → RoadKit.Fld Z h' x O n d w
/-- **new String(chars) AT A CALL, THE ARRAYS AS LISTS**: the char[] at b holds cs, not empty, no char above 255 -/
theorem backArv {p : Program} {l : Launch} {e : Env} {R : Room} {s : State} {args : Array Value} {below : List Frame} {len W : Nat} {Z : State} {a0 : Array Value} {h : Heap} (hZ : Z.Warmed39 s.vm) (hw : ∀ d ∈ words, d.before a0 Z = true) {kI : Nat} (wi : (Jvm.Cond.instantiable ST kI).before a0 Z = true)
    {x b : Addr} {k : ClassId} {zn z : Int32} {cs : List Int32} {dv v0 c0 : Value} (E : RoadKit.Exa Z h x ST) (V : RoadKit.Fld Z h x ST "value" "[B" v0) (C : RoadKit.Fld Z h x ST "coder" "B" c0) (K : RoadKit.Arv Z h b k .char zn (cs.map Value.int) dv) (S : RoadKit.Sta Z h ST "COMPACT_STRINGS" "Z" (.int z)) (hz : ¬ z = 0)
    (hlen : zn.toNatClampNeg = cs.length) (h0 : 0 < cs.length) (hbig : cs.length ≤ 536870912) (hall : ∀ c ∈ cs, ¬ 255 < c) (hfr : 4 ≤ R.frames) (hlo : W + 65 ≤ R.locals) :
    Back l R p e below s args New1.yN len W (fun P a => a = #[.ref x, .ref b] ∧ P.U.heap = h ∧ P.cells + 1 ≤ R.cells ∧ P.slots + cs.length ≤ R.slots)
      (fun P _ v B => ∃ L, QA Z x zn cs h v B.U.heap L ∧ B.locs = P.locs ++ L ∧ B.cells = P.cells + 1 ∧ B.slots = P.slots + cs.length) := by
  obtain ⟨A, K1, K2, K3, K4, K5, K6⟩ := K
  have e : A.slots.size = cs.length := K3.trans hlen
  have hat : ∀ (i : Nat) (hi : i < cs.length), A.slots[i]? = some (.int cs[i]) := fun i hi => by rw [K5 i (by omega)]; simp [List.getD_eq_getElem?_getD, hi]
  have hcv : ∀ (i : Nat) (hi : i < cs.length), cv A i = cs[i] := fun i hi => by unfold cv; rw [hat i hi]
  have hty : Typed .char A := fun i v hv => by
    have hi : i < A.slots.size := (Array.getElem?_eq_some_iff.mp hv).1
    have q := K5 i hi
    rw [hv] at q
    rw [Option.some.inj q]
    exact K6 i hi
  refine Back.mono (back hZ hw wi E V C K1 hty S hz (by omega) (by omega) (fun i hi => by rw [hcv i (by omega)]; exact hall _ (List.getElem_mem _)) hfr hlo) (fun P a hp => ⟨hp.1, hp.2.1, hp.2.2.1, by rw [e]; exact hp.2.2.2⟩) (fun P a v B hp hq => ?_)
  obtain ⟨L, ⟨q1, q2, q3, q4, q5, q6, q7, ⟨V', v1, v2, v3, v4, v5⟩, q9⟩, hl, hc, hs⟩ := hq
  refine ⟨L, ⟨q1, q2, q3, q4, q5, q6, q7, ⟨V'.cls, v3, V', v1, rfl, by rw [v4, e, hlen], K4, fun i hi => ?_, fun i hi => ?_⟩, q9⟩, hl, hc, by rw [hs, e]⟩
  · have hi' : i < cs.length := by omega
    rw [v5 i (by omega), hcv i hi']; simp [List.getD_eq_getElem?_getD, hi']
  · have hi' : i < cs.length := by omega
    simp only [List.getD_eq_getElem?_getD, List.getElem?_map, List.getElem?_eq_getElem hi', Option.map_some, Option.getD_some]
    exact fits_lo8 _
end StrChars.Road
namespace StrChars.Road
open Jvm Sem ClassFile Op Lib Jvm.Stand Jvm.Free Jvm.Free.XT
/-- WHAT COMES BACK, in the writer's own shape -/
def QV (Z : State) (x : Addr) (N : Int32) (bs : List Int32) (h : Heap) (n0 : Nat) (v : Option Value) (h' : Heap) (L : List Loc) : Prop := v = none ∧ RoadKit.Fr n0 L ∧ RoadKit.Keep h h' [x] ∧ RoadKit.Exa Z h' x ST ∧ RoadKit.Fld Z h' x ST "coder" "B" (.int 0) ∧
  ∃ (t : Addr) (kb : ClassId), n0 ≤ t ∧ h.size ≤ t ∧ ¬ t = x ∧ RoadKit.Fld Z h' x ST "value" "[B" (.ref t) ∧ RoadKit.Arv Z h' t kb .byte N (bs.map Value.int) (.int 0)
/-- **new String(chars) AT A CALL, FOR THE WRITER**: a char[] of n known ints, each 0 to 255 -/
theorem backV {p : Program} {l : Launch} {e : Env} {R : Room} {s : State} {args : Array Value} {below : List Frame} {len W : Nat} {Z : State} {a0 : Array Value} {h : Heap} (hZ : Z.Warmed39 s.vm) (hw : ∀ d ∈ words, d.before a0 Z = true) {kI : Nat} (wi : (Jvm.Cond.instantiable ST kI).before a0 Z = true)
    {x b : Addr} {kC : ClassId} {cs bs : List Int32} {d v0 c0 : Value} {z N : Int32} {n n0 : Nat} (hx0 : n0 ≤ x) (hh0 : n0 ≤ h.size) (E : RoadKit.Exa Z h x ST) (V : RoadKit.Fld Z h x ST "value" "[B" v0) (C : RoadKit.Fld Z h x ST "coder" "B" c0) (K : RoadKit.Arv Z h b kC .char N (cs.map Value.int) d) (S : RoadKit.Sta Z h ST "COMPACT_STRINGS" "Z" (.int z)) (hz : ¬ z = 0)
    (hn : cs.length = n) (hN : N = Int32.ofNat n) (l0 : 0 < n) (l2 : n ≤ 4000) (hp : ∀ c ∈ cs, ¬ c < 0 ∧ ¬ (255 : Int32) < c) (hb : bs = cs.map (fun c => c.toInt8.toInt32)) (hfr : 4 ≤ R.frames) (hlo : W + 65 ≤ R.locals) :
    Back l R p e below s args (⟨"java/lang/String", "<init>", "([C)V"⟩ : MethodName) len W (fun P a => a = #[.ref x, .ref b] ∧ P.U.heap = h ∧ P.cells + 1 ≤ R.cells ∧ P.slots + n ≤ R.slots)
      (fun P _ v B => ∃ L, QV Z x N bs h n0 v B.U.heap L ∧ B.locs = P.locs ++ L ∧ B.cells = P.cells + 1 ∧ B.slots = P.slots + n) := by
  subst hn hN hb
  refine Back.mono (backArv hZ hw wi E V C K S hz (n32 (by omega)) l0 (by omega) (fun c hc => (hp c hc).2) hfr hlo) (fun P a hp => hp) (fun P a v B hp hq => ?_)
  obtain ⟨L, ⟨q1, q2, q3, q4, q5, q6, q7, ⟨kb, v1, v2⟩, q9⟩, hl, hc, hs⟩ := hq
  exact ⟨L, ⟨q1, fun y hy => by rw [q2 y hy]; exact hx0, q3, q5, q7, h.size, kb, hh0, Nat.le_refl _, Nat.ne_of_gt E.lt, q6, by rw [List.map_map]; exact v2⟩, hl, hc, hs⟩
end StrChars.Road
end Jvm.Pilot.@@N@@

namespace Jvm.Pilot.@@N@@
open Jvm Jvm.ClassFile Sem Op Lib Jvm.Free Jvm.Stand Jvm.LawKit Jvm.RoadKit Bundle Jvm.Pilot.@@N@@.Jvm.D
section OwnKit
variable {p : Program} {l : Launch} {e : Env} {R : Room} {s : State} {m : MethodId} {args : Array Value} {below : List Frame} {meth : Method} {c : Code} {T W : State} {locs : List Loc} {cells slots : Nat} {Z : State} {a0 : Array Value} {h : Heap} {pc : Nat} {L : Array Slot} {S : List Value}
def Go (p : Program) (e : Env) (below : List Frame) (m : MethodId) (W T : State) (pc : Nat) (L : Array Slot) (S : List Value) : Prop := ∀ t, Steps p.tables e below (T.setTop (mkF m pc L S)) t → Steps p.tables e below W t
theorem Go.iloadN {n : Fin 4} {v : Int32} (k : Go p e below m W T pc L S) (X : Stand p l e R s m args below meth c T locs cells slots) (hx : p.tables.exec = Jvm.exec) (hd : decode c.code pc = .ok (.iload_n n, 1)) (hl : L[n.val]? = some (.val (.int v))) : Go p e below m W T (pc + 1) L (.int v :: S) := fun t kt => k t (Jvm.Free.XS.iloadN X.here hx rfl hd hl kt)
theorem Go.iload {n : Nat} {v : Int32} (k : Go p e below m W T pc L S) (X : Stand p l e R s m args below meth c T locs cells slots) (hx : p.tables.exec = Jvm.exec) (hd : decode c.code pc = .ok (.iload n, 2)) (hl : L[n]? = some (.val (.int v))) : Go p e below m W T (pc + 2) L (.int v :: S) := fun t kt => k t (Jvm.Free.XS.iload X.here hx rfl hd hl kt)
theorem Go.lloadN {n : Fin 4} {v : Int64} (k : Go p e below m W T pc L S) (X : Stand p l e R s m args below meth c T locs cells slots) (hx : p.tables.exec = Jvm.exec) (hd : decode c.code pc = .ok (.lload_n n, 1)) (hl : L[n.val]? = some (.val (.long v))) : Go p e below m W T (pc + 1) L (.long v :: S) := fun t kt => k t (Jvm.Free.XT.lloadN X.here hx rfl hd hl kt)
theorem Go.lload {n : Nat} {v : Int64} (k : Go p e below m W T pc L S) (X : Stand p l e R s m args below meth c T locs cells slots) (hx : p.tables.exec = Jvm.exec) (hd : decode c.code pc = .ok (.lload n, 2)) (hl : L[n]? = some (.val (.long v))) : Go p e below m W T (pc + 2) L (.long v :: S) := fun t kt => k t (Jvm.Free.XT.lload X.here hx rfl hd hl kt)
theorem Go.aloadN {n : Fin 4} {v : Value} (k : Go p e below m W T pc L S) (X : Stand p l e R s m args below meth c T locs cells slots) (hx : p.tables.exec = Jvm.exec) (hd : decode c.code pc = .ok (.aload_n n, 1)) (hl : L[n.val]? = some (.val v)) (hv : v.isRef = true) : Go p e below m W T (pc + 1) L (v :: S) := fun t kt => k t (Jvm.Free.XS.aloadN X.here hx rfl hd hl hv kt)
theorem Go.aload {n : Nat} {v : Value} (k : Go p e below m W T pc L S) (X : Stand p l e R s m args below meth c T locs cells slots) (hx : p.tables.exec = Jvm.exec) (hd : decode c.code pc = .ok (.aload n, 2)) (hl : L[n]? = some (.val v)) (hv : v.isRef = true) : Go p e below m W T (pc + 2) L (v :: S) := fun t kt => k t (Jvm.Free.XS.aload X.here hx rfl hd hl hv kt)
theorem Go.iconst {i : Int} {v : Int32} (k : Go p e below m W T pc L S) (X : Stand p l e R s m args below meth c T locs cells slots) (hx : p.tables.exec = Jvm.exec) (hd : decode c.code pc = .ok (.iconst i, 1)) (hv : Int32.ofInt i = v) : Go p e below m W T (pc + 1) L (.int v :: S) := fun t kt => k t (Jvm.Free.XT.iconstV X.here hx rfl v hd hv kt)
theorem Go.bipush {i : Int} {v : Int32} (k : Go p e below m W T pc L S) (X : Stand p l e R s m args below meth c T locs cells slots) (hx : p.tables.exec = Jvm.exec) (hd : decode c.code pc = .ok (.bipush i, 2)) (hv : (Int8.ofInt i).toInt32 = v) : Go p e below m W T (pc + 2) L (.int v :: S) := fun t kt => k t (Jvm.Free.XT.bipushV X.here hx rfl v hd hv kt)
theorem Go.sipush {i : Int} {v : Int32} (k : Go p e below m W T pc L S) (X : Stand p l e R s m args below meth c T locs cells slots) (hx : p.tables.exec = Jvm.exec) (hd : decode c.code pc = .ok (.sipush i, 3)) (hv : (Int16.ofInt i).toInt32 = v) : Go p e below m W T (pc + 3) L (.int v :: S) := fun t kt => k t (Jvm.Free.XT.sipushV X.here hx rfl v hd hv kt)
theorem Go.lconst {i : Fin 2} {v : Int64} (k : Go p e below m W T pc L S) (X : Stand p l e R s m args below meth c T locs cells slots) (hx : p.tables.exec = Jvm.exec) (hd : decode c.code pc = .ok (.lconst i, 1)) (hv : Int64.ofNat i = v) : Go p e below m W T (pc + 1) L (.long v :: S) := fun t kt => k t (Jvm.Free.XT.lconstV X.here hx rfl v hd hv kt)
theorem Go.aconstNull  (k : Go p e below m W T pc L S) (X : Stand p l e R s m args below meth c T locs cells slots) (hx : p.tables.exec = Jvm.exec) (hd : decode c.code pc = .ok (.aconst_null, 1)) : Go p e below m W T (pc + 1) L (.null :: S) := fun t kt => k t (Jvm.Free.XS.aconstNull X.here hx rfl hd kt)
theorem Go.istoreN {n : Fin 4} {x : Int32} {L' : Array Slot} (k : Go p e below m W T pc L (.int x :: S)) (X : Stand p l e R s m args below meth c T locs cells slots) (hx : p.tables.exec = Jvm.exec) (hd : decode c.code pc = .ok (.istore_n n, 1)) (hl : storeLocals L n.val (.int x) = some L') : Go p e below m W T (pc + 1) L' S := fun t kt => k t (Jvm.Free.XS.istoreN X.here hx rfl hd rfl hl kt)
theorem Go.istore {n : Nat} {x : Int32} {L' : Array Slot} (k : Go p e below m W T pc L (.int x :: S)) (X : Stand p l e R s m args below meth c T locs cells slots) (hx : p.tables.exec = Jvm.exec) (hd : decode c.code pc = .ok (.istore n, 2)) (hl : storeLocals L n (.int x) = some L') : Go p e below m W T (pc + 2) L' S := fun t kt => k t (Jvm.Free.XS.istore X.here hx rfl hd rfl hl kt)
theorem Go.lstoreN {n : Fin 4} {x : Int64} {L' : Array Slot} (k : Go p e below m W T pc L (.long x :: S)) (X : Stand p l e R s m args below meth c T locs cells slots) (hx : p.tables.exec = Jvm.exec) (hd : decode c.code pc = .ok (.lstore_n n, 1)) (hl : storeLocals L n.val (.long x) = some L') : Go p e below m W T (pc + 1) L' S := fun t kt => k t (Jvm.Free.XT.lstoreN X.here hx rfl hd rfl hl kt)
theorem Go.lstore {n : Nat} {x : Int64} {L' : Array Slot} (k : Go p e below m W T pc L (.long x :: S)) (X : Stand p l e R s m args below meth c T locs cells slots) (hx : p.tables.exec = Jvm.exec) (hd : decode c.code pc = .ok (.lstore n, 2)) (hl : storeLocals L n (.long x) = some L') : Go p e below m W T (pc + 2) L' S := fun t kt => k t (Jvm.Free.XT.lstore X.here hx rfl hd rfl hl kt)
theorem Go.astoreN {n : Fin 4} {x : Value} {L' : Array Slot} (k : Go p e below m W T pc L (x :: S)) (X : Stand p l e R s m args below meth c T locs cells slots) (hx : p.tables.exec = Jvm.exec) (hd : decode c.code pc = .ok (.astore_n n, 1)) (hv : x.isRef = true) (hl : storeLocals L n.val x = some L') : Go p e below m W T (pc + 1) L' S := fun t kt => k t (Jvm.Free.XS.astoreN X.here hx rfl hd rfl hv hl kt)
theorem Go.astore {n : Nat} {x : Value} {L' : Array Slot} (k : Go p e below m W T pc L (x :: S)) (X : Stand p l e R s m args below meth c T locs cells slots) (hx : p.tables.exec = Jvm.exec) (hd : decode c.code pc = .ok (.astore n, 2)) (hv : x.isRef = true) (hl : storeLocals L n x = some L') : Go p e below m W T (pc + 2) L' S := fun t kt => k t (Jvm.Free.XS.astore X.here hx rfl hd rfl hv hl kt)
theorem Go.iinc {n : Nat} {i : Int} {x v : Int32} {L' : Array Slot} (k : Go p e below m W T pc L S) (X : Stand p l e R s m args below meth c T locs cells slots) (hx : p.tables.exec = Jvm.exec) (hd : decode c.code pc = .ok (.iinc n i, 3)) (hv : Int32.ofInt i = v) (hl : L[n]? = some (.val (.int x))) (hl' : storeLocals L n (.int (x + v)) = some L') : Go p e below m W T (pc + 3) L' S := fun t kt => k t (Jvm.Free.XT.iincV X.here hx rfl v hd hv hl hl' kt)
theorem Go.iadd {x y : Int32} (k : Go p e below m W T pc L (.int y :: .int x :: S)) (X : Stand p l e R s m args below meth c T locs cells slots) (hx : p.tables.exec = Jvm.exec) (hd : decode c.code pc = .ok (.iadd, 1)) : Go p e below m W T (pc + 1) L (.int (x + y) :: S) := fun t kt => k t (Jvm.Free.XS.iadd X.here hx rfl hd rfl kt)
theorem Go.isub {x y : Int32} (k : Go p e below m W T pc L (.int y :: .int x :: S)) (X : Stand p l e R s m args below meth c T locs cells slots) (hx : p.tables.exec = Jvm.exec) (hd : decode c.code pc = .ok (.isub, 1)) : Go p e below m W T (pc + 1) L (.int (x - y) :: S) := fun t kt => k t (Jvm.Free.XS.isub X.here hx rfl hd rfl kt)
theorem Go.iand {x y : Int32} (k : Go p e below m W T pc L (.int y :: .int x :: S)) (X : Stand p l e R s m args below meth c T locs cells slots) (hx : p.tables.exec = Jvm.exec) (hd : decode c.code pc = .ok (.iand, 1)) : Go p e below m W T (pc + 1) L (.int (x &&& y) :: S) := fun t kt => k t (Jvm.Free.XS.iand X.here hx rfl hd rfl kt)
theorem Go.imul {x y : Int32} (k : Go p e below m W T pc L (.int y :: .int x :: S)) (X : Stand p l e R s m args below meth c T locs cells slots) (hx : p.tables.exec = Jvm.exec) (hd : decode c.code pc = .ok (.imul, 1)) : Go p e below m W T (pc + 1) L (.int (x * y) :: S) := fun t kt => k t (Jvm.Free.XS.imul X.here hx rfl hd rfl kt)
theorem Go.ixor {x y : Int32} (k : Go p e below m W T pc L (.int y :: .int x :: S)) (X : Stand p l e R s m args below meth c T locs cells slots) (hx : p.tables.exec = Jvm.exec) (hd : decode c.code pc = .ok (.ixor, 1)) : Go p e below m W T (pc + 1) L (.int (x ^^^ y) :: S) := fun t kt => k t (Jvm.Free.XT.ixor X.here hx rfl hd rfl kt)
theorem Go.ior {x y : Int32} (k : Go p e below m W T pc L (.int y :: .int x :: S)) (X : Stand p l e R s m args below meth c T locs cells slots) (hx : p.tables.exec = Jvm.exec) (hd : decode c.code pc = .ok (.ior, 1)) : Go p e below m W T (pc + 1) L (.int (x ||| y) :: S) := fun t kt => k t (Jvm.Free.XT.ior X.here hx rfl hd rfl kt)
theorem Go.ishl {x y : Int32} (k : Go p e below m W T pc L (.int y :: .int x :: S)) (X : Stand p l e R s m args below meth c T locs cells slots) (hx : p.tables.exec = Jvm.exec) (hd : decode c.code pc = .ok (.ishl, 1)) : Go p e below m W T (pc + 1) L (.int (x <<< (y &&& 31)) :: S) := fun t kt => k t (Jvm.Free.XT.ishl X.here hx rfl hd rfl kt)
theorem Go.ishr {x y : Int32} (k : Go p e below m W T pc L (.int y :: .int x :: S)) (X : Stand p l e R s m args below meth c T locs cells slots) (hx : p.tables.exec = Jvm.exec) (hd : decode c.code pc = .ok (.ishr, 1)) : Go p e below m W T (pc + 1) L (.int (x >>> (y &&& 31)) :: S) := fun t kt => k t (Jvm.Free.XT.ishr X.here hx rfl hd rfl kt)
theorem Go.iushr {x y : Int32} (k : Go p e below m W T pc L (.int y :: .int x :: S)) (X : Stand p l e R s m args below meth c T locs cells slots) (hx : p.tables.exec = Jvm.exec) (hd : decode c.code pc = .ok (.iushr, 1)) : Go p e below m W T (pc + 1) L (.int (XT.ushr x y) :: S) := fun t kt => k t (Jvm.Free.XT.iushr X.here hx rfl hd rfl kt)
theorem Go.idiv {x y : Int32} (k : Go p e below m W T pc L (.int y :: .int x :: S)) (X : Stand p l e R s m args below meth c T locs cells slots) (hx : p.tables.exec = Jvm.exec) (hd : decode c.code pc = .ok (.idiv, 1)) (hy : y ≠ 0) : Go p e below m W T (pc + 1) L (.int (x / y) :: S) := fun t kt => k t (Jvm.Free.XS.idiv X.here hx rfl hd rfl hy kt)
theorem Go.irem {x y : Int32} (k : Go p e below m W T pc L (.int y :: .int x :: S)) (X : Stand p l e R s m args below meth c T locs cells slots) (hx : p.tables.exec = Jvm.exec) (hd : decode c.code pc = .ok (.irem, 1)) (hy : y ≠ 0) : Go p e below m W T (pc + 1) L (.int (x % y) :: S) := fun t kt => k t (Jvm.RoadKit.iremM X hx rfl hd rfl hy kt)
theorem Go.ineg {x : Int32} (k : Go p e below m W T pc L (.int x :: S)) (X : Stand p l e R s m args below meth c T locs cells slots) (hx : p.tables.exec = Jvm.exec) (hd : decode c.code pc = .ok (.ineg, 1)) : Go p e below m W T (pc + 1) L (.int (-x) :: S) := fun t kt => k t (Jvm.Free.XS.ineg X.here hx rfl hd rfl kt)
theorem Go.ladd {x y : Int64} (k : Go p e below m W T pc L (.long y :: .long x :: S)) (X : Stand p l e R s m args below meth c T locs cells slots) (hx : p.tables.exec = Jvm.exec) (hd : decode c.code pc = .ok (.ladd, 1)) : Go p e below m W T (pc + 1) L (.long (x + y) :: S) := fun t kt => k t (Jvm.Free.XT.ladd X.here hx rfl hd rfl kt)
theorem Go.lsub {x y : Int64} (k : Go p e below m W T pc L (.long y :: .long x :: S)) (X : Stand p l e R s m args below meth c T locs cells slots) (hx : p.tables.exec = Jvm.exec) (hd : decode c.code pc = .ok (.lsub, 1)) : Go p e below m W T (pc + 1) L (.long (x - y) :: S) := fun t kt => k t (Jvm.Free.XT.lsub X.here hx rfl hd rfl kt)
theorem Go.lmul {x y : Int64} (k : Go p e below m W T pc L (.long y :: .long x :: S)) (X : Stand p l e R s m args below meth c T locs cells slots) (hx : p.tables.exec = Jvm.exec) (hd : decode c.code pc = .ok (.lmul, 1)) : Go p e below m W T (pc + 1) L (.long (x * y) :: S) := fun t kt => k t (Jvm.Free.XT.lmul X.here hx rfl hd rfl kt)
theorem Go.land {x y : Int64} (k : Go p e below m W T pc L (.long y :: .long x :: S)) (X : Stand p l e R s m args below meth c T locs cells slots) (hx : p.tables.exec = Jvm.exec) (hd : decode c.code pc = .ok (.land, 1)) : Go p e below m W T (pc + 1) L (.long (x &&& y) :: S) := fun t kt => k t (Jvm.Free.XT.land X.here hx rfl hd rfl kt)
theorem Go.lor {x y : Int64} (k : Go p e below m W T pc L (.long y :: .long x :: S)) (X : Stand p l e R s m args below meth c T locs cells slots) (hx : p.tables.exec = Jvm.exec) (hd : decode c.code pc = .ok (.lor, 1)) : Go p e below m W T (pc + 1) L (.long (x ||| y) :: S) := fun t kt => k t (Jvm.Free.XT.lor X.here hx rfl hd rfl kt)
theorem Go.lxor {x y : Int64} (k : Go p e below m W T pc L (.long y :: .long x :: S)) (X : Stand p l e R s m args below meth c T locs cells slots) (hx : p.tables.exec = Jvm.exec) (hd : decode c.code pc = .ok (.lxor, 1)) : Go p e below m W T (pc + 1) L (.long (x ^^^ y) :: S) := fun t kt => k t (Jvm.Free.XT.lxor X.here hx rfl hd rfl kt)
theorem Go.lshl {x : Int64} {y : Int32} (k : Go p e below m W T pc L (.int y :: .long x :: S)) (X : Stand p l e R s m args below meth c T locs cells slots) (hx : p.tables.exec = Jvm.exec) (hd : decode c.code pc = .ok (.lshl, 1)) : Go p e below m W T (pc + 1) L (.long (x <<< (y.toInt64 &&& 63)) :: S) := fun t kt => k t (Jvm.Free.XT.lshl X.here hx rfl hd rfl kt)
theorem Go.lshr {x : Int64} {y : Int32} (k : Go p e below m W T pc L (.int y :: .long x :: S)) (X : Stand p l e R s m args below meth c T locs cells slots) (hx : p.tables.exec = Jvm.exec) (hd : decode c.code pc = .ok (.lshr, 1)) : Go p e below m W T (pc + 1) L (.long (x >>> (y.toInt64 &&& 63)) :: S) := fun t kt => k t (Jvm.Free.XT.lshr X.here hx rfl hd rfl kt)
theorem Go.lushr {x : Int64} {y : Int32} (k : Go p e below m W T pc L (.int y :: .long x :: S)) (X : Stand p l e R s m args below meth c T locs cells slots) (hx : p.tables.exec = Jvm.exec) (hd : decode c.code pc = .ok (.lushr, 1)) : Go p e below m W T (pc + 1) L (.long (XT.ushrL x y) :: S) := fun t kt => k t (Jvm.Free.XT.lushr X.here hx rfl hd rfl kt)
theorem Go.i2l {x : Int32} (k : Go p e below m W T pc L (.int x :: S)) (X : Stand p l e R s m args below meth c T locs cells slots) (hx : p.tables.exec = Jvm.exec) (hd : decode c.code pc = .ok (.i2l, 1)) : Go p e below m W T (pc + 1) L (.long x.toInt64 :: S) := fun t kt => k t (Jvm.Free.XT.i2l X.here hx rfl hd rfl kt)
theorem Go.l2i {x : Int64} (k : Go p e below m W T pc L (.long x :: S)) (X : Stand p l e R s m args below meth c T locs cells slots) (hx : p.tables.exec = Jvm.exec) (hd : decode c.code pc = .ok (.l2i, 1)) : Go p e below m W T (pc + 1) L (.int x.toInt32 :: S) := fun t kt => k t (Jvm.Free.XT.l2i X.here hx rfl hd rfl kt)
theorem Go.i2b {x : Int32} (k : Go p e below m W T pc L (.int x :: S)) (X : Stand p l e R s m args below meth c T locs cells slots) (hx : p.tables.exec = Jvm.exec) (hd : decode c.code pc = .ok (.i2b, 1)) : Go p e below m W T (pc + 1) L (.int x.toInt8.toInt32 :: S) := fun t kt => k t (Jvm.Free.XT.i2b X.here hx rfl hd rfl kt)
theorem Go.i2c {x : Int32} (k : Go p e below m W T pc L (.int x :: S)) (X : Stand p l e R s m args below meth c T locs cells slots) (hx : p.tables.exec = Jvm.exec) (hd : decode c.code pc = .ok (.i2c, 1)) : Go p e below m W T (pc + 1) L (.int x.toUInt32.toUInt16.toUInt32.toInt32 :: S) := fun t kt => k t (Jvm.Free.XT.i2c X.here hx rfl hd rfl kt)
theorem Go.lcmp {x y : Int64} (k : Go p e below m W T pc L (.long y :: .long x :: S)) (X : Stand p l e R s m args below meth c T locs cells slots) (hx : p.tables.exec = Jvm.exec) (hd : decode c.code pc = .ok (.lcmp, 1)) : Go p e below m W T (pc + 1) L (.int (XT.cmpL x y) :: S) := fun t kt => k t (Jvm.Free.XT.lcmp X.here hx rfl hd rfl kt)
theorem Go.dup {x : Value} (k : Go p e below m W T pc L (x :: S)) (X : Stand p l e R s m args below meth c T locs cells slots) (hx : p.tables.exec = Jvm.exec) (hd : decode c.code pc = .ok (.dup, 1)) (h1 : x.category = 1) : Go p e below m W T (pc + 1) L (x :: x :: S) := fun t kt => k t (Jvm.Free.XS.dup X.here hx rfl hd rfl h1 kt)
theorem Go.pop {x : Value} (k : Go p e below m W T pc L (x :: S)) (X : Stand p l e R s m args below meth c T locs cells slots) (hx : p.tables.exec = Jvm.exec) (hd : decode c.code pc = .ok (.pop, 1)) (h1 : x.category = 1) : Go p e below m W T (pc + 1) L S := fun t kt => k t (Jvm.Free.XT.pop X.here hx rfl hd rfl h1 kt)
theorem Go.dupX1 {x y : Value} (k : Go p e below m W T pc L (x :: y :: S)) (X : Stand p l e R s m args below meth c T locs cells slots) (hx : p.tables.exec = Jvm.exec) (hd : decode c.code pc = .ok (.dup_x1, 1)) (h1 : x.category = 1) (h2 : y.category = 1) : Go p e below m W T (pc + 1) L (x :: y :: x :: S) := fun t kt => k t (Jvm.Free.XT.dupX1 X.here hx rfl hd rfl h1 h2 kt)
theorem Go.dup2 {x y : Value} (k : Go p e below m W T pc L (x :: y :: S)) (X : Stand p l e R s m args below meth c T locs cells slots) (hx : p.tables.exec = Jvm.exec) (hd : decode c.code pc = .ok (.dup2, 1)) (h1 : x.category = 1) (h2 : y.category = 1) : Go p e below m W T (pc + 1) L (x :: y :: x :: y :: S) := fun t kt => k t (Jvm.Free.XT.dup2 X.here hx rfl hd rfl h1 h2 kt)
theorem Go.goto {o : Int} {pc' : Nat} (k : Go p e below m W T pc L S) (X : Stand p l e R s m args below meth c T locs cells slots) (hx : p.tables.exec = Jvm.exec) (hd : decode c.code pc = .ok (.goto o, 3)) (ho : 0 ≤ (pc : Int) + o) (hp : ((pc : Int) + o).toNat = pc') : Go p e below m W T pc' L S := fun t kt => k t (Jvm.Free.XS.goto X.here hx rfl rfl hd ho hp kt)
theorem Go.ifYes {cd : ClassFile.Cond} {o : Int} {pc' : Nat} {x : Int32} (k : Go p e below m W T pc L (.int x :: S)) (X : Stand p l e R s m args below meth c T locs cells slots) (hx : p.tables.exec = Jvm.exec) (hd : decode c.code pc = .ok (.ifCond cd o, 3)) (hc : ifCond.holds cd x = true) (ho : 0 ≤ (pc : Int) + o) (hp : ((pc : Int) + o).toNat = pc') : Go p e below m W T pc' L S := fun t kt => k t (Jvm.Free.XS.ifYes X.here hx rfl rfl hd rfl hc ho hp kt)
theorem Go.ifNo {cd : ClassFile.Cond} {o : Int} {x : Int32} (k : Go p e below m W T pc L (.int x :: S)) (X : Stand p l e R s m args below meth c T locs cells slots) (hx : p.tables.exec = Jvm.exec) (hd : decode c.code pc = .ok (.ifCond cd o, 3)) (hc : ifCond.holds cd x = false) : Go p e below m W T (pc + 3) L S := fun t kt => k t (Jvm.Free.XS.ifNo X.here hx rfl hd rfl hc kt)
theorem Go.icmpYes {cd : ClassFile.Cond} {o : Int} {pc' : Nat} {x y : Int32} (k : Go p e below m W T pc L (.int y :: .int x :: S)) (X : Stand p l e R s m args below meth c T locs cells slots) (hx : p.tables.exec = Jvm.exec) (hd : decode c.code pc = .ok (.if_icmp cd o, 3)) (hc : if_icmp.holds cd x y = true) (ho : 0 ≤ (pc : Int) + o) (hp : ((pc : Int) + o).toNat = pc') : Go p e below m W T pc' L S := fun t kt => k t (Jvm.Free.XS.icmpYes X.here hx rfl rfl hd rfl hc ho hp kt)
theorem Go.icmpNo {cd : ClassFile.Cond} {o : Int} {x y : Int32} (k : Go p e below m W T pc L (.int y :: .int x :: S)) (X : Stand p l e R s m args below meth c T locs cells slots) (hx : p.tables.exec = Jvm.exec) (hd : decode c.code pc = .ok (.if_icmp cd o, 3)) (hc : if_icmp.holds cd x y = false) : Go p e below m W T (pc + 3) L S := fun t kt => k t (Jvm.Free.XS.icmpNo X.here hx rfl hd rfl hc kt)
theorem Go.nullYes {o : Int} {pc' : Nat} {v : Value} (k : Go p e below m W T pc L (v :: S)) (X : Stand p l e R s m args below meth c T locs cells slots) (hx : p.tables.exec = Jvm.exec) (hd : decode c.code pc = .ok (.ifnull o, 3)) (hv : v = .null) (ho : 0 ≤ (pc : Int) + o) (hp : ((pc : Int) + o).toNat = pc') : Go p e below m W T pc' L S := fun t kt => k t (Jvm.Free.XT.nullYes X.here hx rfl rfl hd rfl hv ho hp kt)
theorem Go.nullNo {o : Int} {v : Value} (k : Go p e below m W T pc L (v :: S)) (X : Stand p l e R s m args below meth c T locs cells slots) (hx : p.tables.exec = Jvm.exec) (hd : decode c.code pc = .ok (.ifnull o, 3)) (hr : v.isRef = true) (hv : ¬ v = .null) : Go p e below m W T (pc + 3) L S := fun t kt => k t (Jvm.Free.XT.nullNo X.here hx rfl hd rfl hr hv kt)
theorem Go.nonnullYes {o : Int} {pc' : Nat} {v : Value} (k : Go p e below m W T pc L (v :: S)) (X : Stand p l e R s m args below meth c T locs cells slots) (hx : p.tables.exec = Jvm.exec) (hd : decode c.code pc = .ok (.ifnonnull o, 3)) (hr : v.isRef = true) (hv : ¬ v = .null) (ho : 0 ≤ (pc : Int) + o) (hp : ((pc : Int) + o).toNat = pc') : Go p e below m W T pc' L S := fun t kt => k t (Jvm.Free.XT.nonnullYes X.here hx rfl rfl hd rfl hr hv ho hp kt)
theorem Go.nonnullNo {o : Int} {v : Value} (k : Go p e below m W T pc L (v :: S)) (X : Stand p l e R s m args below meth c T locs cells slots) (hx : p.tables.exec = Jvm.exec) (hd : decode c.code pc = .ok (.ifnonnull o, 3)) (hv : v = .null) : Go p e below m W T (pc + 3) L S := fun t kt => k t (Jvm.Free.XT.nonnullNo X.here hx rfl hd rfl hv kt)
theorem Go.acmpYes {cd : ClassFile.ACond} {o : Int} {pc' : Nat} {x y : Value} (k : Go p e below m W T pc L (y :: x :: S)) (X : Stand p l e R s m args below meth c T locs cells slots) (hx : p.tables.exec = Jvm.exec) (hd : decode c.code pc = .ok (.if_acmp cd o, 3)) (h1 : x.isRef = true) (h2 : y.isRef = true) (hc : XT.acmp cd x y = true) (ho : 0 ≤ (pc : Int) + o) (hp : ((pc : Int) + o).toNat = pc') : Go p e below m W T pc' L S := fun t kt => k t (Jvm.Free.XT.acmpYes X.here hx rfl rfl hd rfl h1 h2 hc ho hp kt)
theorem Go.acmpNo {cd : ClassFile.ACond} {o : Int} {x y : Value} (k : Go p e below m W T pc L (y :: x :: S)) (X : Stand p l e R s m args below meth c T locs cells slots) (hx : p.tables.exec = Jvm.exec) (hd : decode c.code pc = .ok (.if_acmp cd o, 3)) (h1 : x.isRef = true) (h2 : y.isRef = true) (hc : XT.acmp cd x y = false) : Go p e below m W T (pc + 3) L S := fun t kt => k t (Jvm.Free.XT.acmpNo X.here hx rfl hd rfl h1 h2 hc kt)
theorem Go.tsw {dflt low high : Int} {offs : Array Int} {len : Nat} {o : Int} {pc' : Nat} {i : Int32} (k : Go p e below m W T pc L (.int i :: S)) (X : Stand p l e R s m args below meth c T locs cells slots) (hx : p.tables.exec = Jvm.exec) (hd : decode c.code pc = .ok (.tableswitch dflt low high offs, len)) (hin : ¬ (i.toInt < low ∨ i.toInt > high)) (hoff : offs[(i.toInt - low).toNat]? = some o) (ho : 0 ≤ (pc : Int) + o) (hp : ((pc : Int) + o).toNat = pc') : Go p e below m W T pc' L S := fun t kt => k t (Jvm.Free.XS.tswIn X.here hx rfl rfl hd rfl hin hoff ho hp kt)
theorem Go.ldcI {own : String} {index : Nat} {v : Int32} (k : Go p e below m W T pc L S) (X : Stand p l e R s m args below meth c T locs cells slots) (hx : p.tables.exec = Jvm.exec) (hZ : Z.Warmed39 s.vm) (hown : s.vm.findClass own = some m.cls) (w : (Cond.constant own index v).before a0 Z = true) (hd : decode c.code pc = .ok (.ldc index, 2)) : Go p e below m W T (pc + 2) L (.int v :: S) := fun t kt => k t (Jvm.Stand.ldcI X hx hown (mvT hZ w) rfl hd kt)
theorem Go.ldc2J {own : String} {index : Nat} {v : Int64} (k : Go p e below m W T pc L S) (X : Stand p l e R s m args below meth c T locs cells slots) (hx : p.tables.exec = Jvm.exec) (hZ : Z.Warmed39 s.vm) (hown : s.vm.findClass own = some m.cls) (w : (Cond.constantLong own index v).before a0 Z = true) (hd : decode c.code pc = .ok (.ldc2_w index, 3)) : Go p e below m W T (pc + 3) L (.long v :: S) := fun t kt => k t (Jvm.Stand.ldc2J X hx hown (mvT hZ w) rfl hd kt)
theorem Go.getF {own R0 O n d host : String} {index : Nat} {a : Addr} {v : Value} (k : Go p e below m W T pc L (.ref a :: S)) (X : Stand p l e R s m args below meth c T locs cells slots) (hx : p.tables.exec = Jvm.exec) (hZ : Z.Warmed39 s.vm) (hown : s.vm.findClass own = some m.cls) (w : (Cond.fieldLink own index R0 n d).before a0 Z = true ∨ (Cond.fieldLinkNest own index R0 n d host).before a0 Z = true) (via : Via Z R0 O n d) (eT : T.heap = h) (F : Fld Z h a O n d v) (hd : decode c.code pc = .ok (.getfield index, 3)) :
    ∃ T', Stand p l e R s m args below meth c T' locs cells slots ∧ T'.heap = h ∧ Go p e below m W T' (pc + 3) L (v :: S) := by
  obtain ⟨T', X', e', st⟩ := Jvm.RoadKit.getF X hx hZ hown w via eT F (g := mkF m pc L (.ref a :: S)) rfl rfl hd
  exact ⟨T', X', e', fun t kt => k t (st t kt)⟩
theorem Go.getS {own R0 O n d host : String} {index : Nat} {v : Value} (k : Go p e below m W T pc L S) (X : Stand p l e R s m args below meth c T locs cells slots) (hx : p.tables.exec = Jvm.exec) (hZ : Z.Warmed39 s.vm) (hown : s.vm.findClass own = some m.cls) (w : (Cond.fieldLink own index R0 n d).before a0 Z = true ∨ (Cond.fieldLinkNest own index R0 n d host).before a0 Z = true) (via : Via Z R0 O n d) (eT : T.heap = h) (F : Sta Z h O n d v) (hd : decode c.code pc = .ok (.getstatic index, 3)) :
    ∃ T', Stand p l e R s m args below meth c T' locs cells slots ∧ T'.heap = h ∧ Go p e below m W T' (pc + 3) L (v :: S) := by
  obtain ⟨T', X', e', st⟩ := Jvm.RoadKit.getS2 X hx hZ hown w via eT F (g := mkF m pc L S) rfl hd
  exact ⟨T', X', e', fun t kt => k t (st t kt)⟩
theorem Go.putF {own R0 O n d host C : String} {index kk : Nat} {ty : FieldType} {a : Addr} {v old : Value} (k : Go p e below m W T pc L (v :: .ref a :: S)) (X : Stand p l e R s m args below meth c T locs cells slots) (hx : p.tables.exec = Jvm.exec) (hZ : Z.Warmed39 s.vm) (hown : s.vm.findClass own = some m.cls) (w : (Cond.fieldLink own index R0 n d).before a0 Z = true ∨ (Cond.fieldLinkNest own index R0 n d host).before a0 Z = true) (via : Via Z R0 O n d) (eT : T.heap = h) (F : Fld Z h a O n d old) (E : Exa Z h a C)
    (Ly : (Cond.lays C O n d).before a0 Z = true ∨ ((Cond.laysFinal C O n d).before a0 Z = true ∧ own = O ∧ meth.name = "<init>")) (wi : (Cond.instantiable C kk).before a0 Z = true) (hty : parseFieldDescriptor d = some ty) (hn : narrow ty v = v) (hf : fits ty v = true) {n0 : Nat} (N : Fr n0 locs) (g0 : n0 ≤ a) (hd : decode c.code pc = .ok (.putfield index, 3)) :
    ∃ T' h' locs', Stand p l e R s m args below meth c T' locs' cells slots ∧ T'.heap = h' ∧ Wr h h' a (Jvm.RoadKit.slotOf Z O n d) v ∧ Fr n0 locs' ∧ Go p e below m W T' (pc + 3) L S := by
  obtain ⟨T', h', X', e', W', st⟩ := Jvm.RoadKit.putF X hx hZ hown w via eT F E Ly wi hty hn hf (g := mkF m pc L (v :: .ref a :: S)) rfl rfl hd
  exact ⟨T', h', _, X', e', W', Fr.snoc X' N g0, fun t kt => k t (st t kt)⟩
theorem Go.newO {own C : String} {index n cells' slots' : Nat} (k : Go p e below m W T pc L S) (X : Stand p l e R s m args below meth c T locs cells slots) (hx : p.tables.exec = Jvm.exec) (hZ : Z.Warmed39 s.vm) (hown : s.vm.findClass own = some m.cls) (w : (Cond.classLink own index C).before a0 Z = true) (wi : (Cond.instantiable C n).before a0 Z = true) (wz : (Cond.initialized C).before a0 Z = true) (eT : T.heap = h) (hd : decode c.code pc = .ok (.new index, 3)) (h1 : cells + 1 = cells') (h2 : slots + n = slots') (h3 : cells' ≤ R.cells) (h4 : slots' ≤ R.slots) :
    ∃ T' h' b, Stand p l e R s m args below meth c T' locs cells' slots' ∧ T'.heap = h' ∧ b = h.size ∧ Ext h h' ∧ Exa Z h' b C ∧ (∀ {O nm d : String} {ty : FieldType}, Laid Z a0 C O nm d → parseFieldDescriptor d = some ty → Fld Z h' b O nm d (defaultValue ty)) ∧ Go p e below m W T' (pc + 3) L (.ref b :: S) := by
  subst h1 h2
  obtain ⟨T', h', X', e', E', A', D', -, st⟩ := Jvm.RoadKit.newO X hx hZ hown w wi wz eT (g := mkF m pc L S) rfl hd h3 h4
  exact ⟨T', h', _, X', e', rfl, E', A', D', fun t kt => k t (st t kt)⟩
theorem Go.initO {own : String} {idx Wd : Nat} {a : Addr} (k : Go p e below m W T pc L (.ref a :: S)) (X : Stand p l e R s m args below meth c T locs cells slots) (hx : p.tables.exec = Jvm.exec) (hZ : Z.Warmed39 s.vm) (hown : s.vm.findClass own = some m.cls) (hsz : L.size = c.maxLocals) (w1 : (Cond.methodLink own idx Lib.objectInit).before a0 Z = true) (w2 : (Cond.instanceMethod Lib.objectInit).before a0 Z = true)
    (w3 : (Cond.code Lib.objectInit ⟨#[0xb1]⟩ 1 none).before a0 Z = true) (eT : T.heap = h) (hd : decode c.code pc = .ok (.invokespecial idx, 3)) (hW : (S.map fun v => v.category).sum ≤ Wd) (hf : 1 ≤ R.frames) (hl : Wd + 12 ≤ R.locals) :
    ∃ T', Stand p l e R s m args below meth c T' locs cells slots ∧ T'.heap = h ∧ Go p e below m W T' (pc + 3) L S := by
  obtain ⟨T', X', e', st⟩ := Jvm.RoadKit.initO X hx hZ hown w1 w2 w3 eT (g := mkF m pc L (.ref a :: S)) rfl hsz rfl hd hf (W := Wd) (by show 2 * 0 + _ ≤ _; rw [Nat.mul_zero, Nat.zero_add]; exact hW) hl
  exact ⟨T', X', e', fun t kt => k t (st t kt)⟩
theorem Go.virtB {own C : String} {index : Nat} {y z : MethodName} {Wd cells' slots' : Nat} {b : Addr} {argsL rest : List Value} {Q : Option Value → Heap → List Loc → Prop} {as' : Array Value} {ps : List FieldType} {r : Option FieldType} {rc rs : Nat}
    (k : Go p e below m W T pc L S) (X : Stand p l e R s m args below meth c T locs cells slots) (hx : p.tables.exec = Jvm.exec) (hZ : Z.Warmed39 s.vm) (hown : s.vm.findClass own = some m.cls) (hsz : L.size = c.maxLocals)
    (w1 : (Cond.methodLink own index y).before a0 Z = true) (w2 : (Cond.declares y).before a0 Z = true) (hnf : NotFace s y) (w3 : (Cond.selects C y z).before a0 Z = true) (w4 : (Cond.instanceMethod z).before a0 Z = true) (hd : decode c.code pc = .ok (.invokevirtual index, 3)) (hy : y.cls ≠ "java/lang/invoke/MethodHandle" ∧ y.cls ≠ "java/lang/invoke/VarHandle")
    (hK : Back l R p e below s args z 3 Wd (fun A a => a = as' ∧ A.U.heap = h ∧ A.cells + rc ≤ R.cells ∧ A.slots + rs ≤ R.slots) (fun A _ v B => ∃ L, Q v B.U.heap L ∧ B.locs = A.locs ++ L ∧ B.cells = A.cells + rc ∧ B.slots = A.slots + rs))
    (eT : T.heap = h) (E : Exa Z h b C) (hs : S = argsL.reverse ++ .ref b :: rest) (ha : (.ref b :: argsL).toArray = as') (hp : parseMethodDescriptor y.desc = some ⟨ps, r⟩) (hlen : argsL.length = ps.length) (hW : (rest.map fun v => v.category).sum ≤ Wd) (h1 : cells + rc = cells') (h2 : slots + rs = slots') (h3 : cells' ≤ R.cells) (h4 : slots' ≤ R.slots) :
    ∃ T' v L', Stand p l e R s m args below meth c T' (locs ++ L') cells' slots' ∧ Q v T'.heap L' ∧ Go p e below m W T' (pc + 3) L (v.toList ++ rest) := by
  subst hs h1 h2
  obtain ⟨cq, kq, qa, qb, qc⟩ := isOf hZ eT E
  obtain ⟨v, _, ⟨T', L', k', n'⟩, -, X', ⟨Lc, hQ, l1, y1, z1⟩, st⟩ := X.virtualBack hx (y := y) (z := z) hown (mvT hZ w1) (mvT hZ w2) hnf (mvT hZ w3) (mvT hZ w4) hy hK qa qc (g := mkF m pc L (argsL.reverse ++ .ref b :: rest)) rfl hsz (Steps.refl _) (argsL := argsL) (rest := rest) (lenOf hp hlen) rfl (by show 2 * 0 + _ ≤ _; rw [Nat.mul_zero, Nat.zero_add]; exact hW) hd (fun _ _ => ⟨ha, eT, h3, h4⟩)
  dsimp only [Pt.U, Pt.locs, Pt.cells, Pt.slots] at X' l1 y1 z1 st hQ
  subst l1 y1 z1
  exact ⟨T', v, Lc, X', hQ, fun t kt => k t (st.trans kt)⟩
theorem Go.virt {own C : String} {index : Nat} {y z : MethodName} {Wd cells' slots' : Nat} {b : Addr} {argsL rest : List Value} {Q : Option Value → Heap → List Loc → Prop} {as' : Array Value} {ps : List FieldType} {r : Option FieldType} {bytes : ByteArray} {maxL : Nat} {ret : Option FieldType} {rm : Room}
    (k : Go p e below m W T pc L S) (X : Stand p l e R s m args below meth c T locs cells slots) (hx : p.tables.exec = Jvm.exec) (hZ : Z.Warmed39 s.vm) (hown : s.vm.findClass own = some m.cls) (hsz : L.size = c.maxLocals)
    (w1 : (Cond.methodLink own index y).before a0 Z = true) (w2 : (Cond.declares y).before a0 Z = true) (hnf : NotFace s y) (w3 : (Cond.selects C y z).before a0 Z = true) (w4 : (Cond.instanceMethod z).before a0 Z = true) (wc : (Cond.code z bytes maxL ret).before a0 Z = true) (wz : (Cond.initialized z.cls).before a0 Z = true) (hd : decode c.code pc = .ok (.invokevirtual index, 3)) (hy : y.cls ≠ "java/lang/invoke/MethodHandle" ∧ y.cls ≠ "java/lang/invoke/VarHandle")
    (hM : MetFree l z (head1 [Cond.code z bytes maxL ret] rm) (fun a U => a = as' ∧ Z.Warmed39 U.vm ∧ U.heap = h) (fun _ _ _ _ _ => True) (fun _ U o U' => ∃ v L, o = .returned v ∧ Q v U'.heap L ∧ FrameEnd U o U' L rm.cells rm.slots))
    (eT : T.heap = h) (E : Exa Z h b C) (hs : S = argsL.reverse ++ .ref b :: rest) (ha : (.ref b :: argsL).toArray = as') (hp : parseMethodDescriptor y.desc = some ⟨ps, r⟩) (hlen : argsL.length = ps.length) (hW : (rest.map fun v => v.category).sum ≤ Wd) (hf : rm.frames + 1 ≤ R.frames) (hl : Wd + (maxL + 11) + rm.locals ≤ R.locals) (h1 : cells + rm.cells = cells') (h2 : slots + rm.slots = slots') (h3 : cells' ≤ R.cells) (h4 : slots' ≤ R.slots) :
    ∃ T' v L', Stand p l e R s m args below meth c T' (locs ++ L') cells' slots' ∧ Q v T'.heap L' ∧ Go p e below m W T' (pc + 3) L (v.toList ++ rest) :=
  Go.virtB (Wd := Wd) k X hx hZ hown hsz w1 w2 hnf w3 w4 hd hy (backOf (W := Wd) hM hZ wc wz hf hl) eT E hs ha hp hlen hW h1 h2 h3 h4
theorem Go.virtUpB {own C owner : String} {index : Nat} {y z : MethodName} {Wd cells' slots' : Nat} {b : Addr} {argsL rest : List Value} {Q : Option Value → Heap → List Loc → Prop} {as' : Array Value} {ps : List FieldType} {r : Option FieldType} {rc rs : Nat}
    (k : Go p e below m W T pc L S) (X : Stand p l e R s m args below meth c T locs cells slots) (hx : p.tables.exec = Jvm.exec) (hZ : Z.Warmed39 s.vm) (hown : s.vm.findClass own = some m.cls) (hsz : L.size = c.maxLocals)
    (w1 : (Cond.methodLink own index y).before a0 Z = true) (w2 : (Cond.sameMethod y.cls owner y.name y.desc).before a0 Z = true) (w5 : (Cond.declares ⟨owner, y.name, y.desc⟩).before a0 Z = true) (w3 : (Cond.selects C y z).before a0 Z = true) (w4 : (Cond.instanceMethod z).before a0 Z = true) (hd : decode c.code pc = .ok (.invokevirtual index, 3)) (hy : owner ≠ "java/lang/invoke/MethodHandle" ∧ owner ≠ "java/lang/invoke/VarHandle")
    (hK : Back l R p e below s args z 3 Wd (fun A a => a = as' ∧ A.U.heap = h ∧ A.cells + rc ≤ R.cells ∧ A.slots + rs ≤ R.slots) (fun A _ v B => ∃ L, Q v B.U.heap L ∧ B.locs = A.locs ++ L ∧ B.cells = A.cells + rc ∧ B.slots = A.slots + rs))
    (eT : T.heap = h) (E : Exa Z h b C) (hs : S = argsL.reverse ++ .ref b :: rest) (ha : (.ref b :: argsL).toArray = as') (hp : parseMethodDescriptor y.desc = some ⟨ps, r⟩) (hlen : argsL.length = ps.length) (hW : (rest.map fun v => v.category).sum ≤ Wd) (h1 : cells + rc = cells') (h2 : slots + rs = slots') (h3 : cells' ≤ R.cells) (h4 : slots' ≤ R.slots) :
    ∃ T' v L', Stand p l e R s m args below meth c T' (locs ++ L') cells' slots' ∧ Q v T'.heap L' ∧ Go p e below m W T' (pc + 3) L (v.toList ++ rest) := by
  subst hs h1 h2
  obtain ⟨cq, kq, qa, qb, qc⟩ := isOf hZ eT E
  obtain ⟨v, _, ⟨T', L', k', n'⟩, -, X', ⟨Lc, hQ, l1, y1, z1⟩, st⟩ := X.virtualBackUp hx (x := y) (y := z) (owner := owner) hown (mvT hZ w1) (mvT hZ w2) (mvT hZ w5) hy (mvT hZ w3) (mvT hZ w4) hK qa qc (g := mkF m pc L (argsL.reverse ++ .ref b :: rest)) rfl hsz (Steps.refl _) (argsL := argsL) (rest := rest) (lenOf hp hlen) rfl (by show 2 * 0 + _ ≤ _; rw [Nat.mul_zero, Nat.zero_add]; exact hW) hd (fun _ _ => ⟨ha, eT, h3, h4⟩)
  dsimp only [Pt.U, Pt.locs, Pt.cells, Pt.slots] at X' l1 y1 z1 st hQ
  subst l1 y1 z1
  exact ⟨T', v, Lc, X', hQ, fun t kt => k t (st.trans kt)⟩
theorem Go.virtUp {own C owner : String} {index : Nat} {y z : MethodName} {Wd cells' slots' : Nat} {b : Addr} {argsL rest : List Value} {Q : Option Value → Heap → List Loc → Prop} {as' : Array Value} {ps : List FieldType} {r : Option FieldType} {bytes : ByteArray} {maxL : Nat} {ret : Option FieldType} {rm : Room}
    (k : Go p e below m W T pc L S) (X : Stand p l e R s m args below meth c T locs cells slots) (hx : p.tables.exec = Jvm.exec) (hZ : Z.Warmed39 s.vm) (hown : s.vm.findClass own = some m.cls) (hsz : L.size = c.maxLocals)
    (w1 : (Cond.methodLink own index y).before a0 Z = true) (w2 : (Cond.sameMethod y.cls owner y.name y.desc).before a0 Z = true) (w5 : (Cond.declares ⟨owner, y.name, y.desc⟩).before a0 Z = true) (w3 : (Cond.selects C y z).before a0 Z = true) (w4 : (Cond.instanceMethod z).before a0 Z = true) (wc : (Cond.code z bytes maxL ret).before a0 Z = true) (wz : (Cond.initialized z.cls).before a0 Z = true) (hd : decode c.code pc = .ok (.invokevirtual index, 3)) (hy : owner ≠ "java/lang/invoke/MethodHandle" ∧ owner ≠ "java/lang/invoke/VarHandle")
    (hM : MetFree l z (head1 [Cond.code z bytes maxL ret] rm) (fun a U => a = as' ∧ Z.Warmed39 U.vm ∧ U.heap = h) (fun _ _ _ _ _ => True) (fun _ U o U' => ∃ v L, o = .returned v ∧ Q v U'.heap L ∧ FrameEnd U o U' L rm.cells rm.slots))
    (eT : T.heap = h) (E : Exa Z h b C) (hs : S = argsL.reverse ++ .ref b :: rest) (ha : (.ref b :: argsL).toArray = as') (hp : parseMethodDescriptor y.desc = some ⟨ps, r⟩) (hlen : argsL.length = ps.length) (hW : (rest.map fun v => v.category).sum ≤ Wd) (hf : rm.frames + 1 ≤ R.frames) (hl : Wd + (maxL + 11) + rm.locals ≤ R.locals) (h1 : cells + rm.cells = cells') (h2 : slots + rm.slots = slots') (h3 : cells' ≤ R.cells) (h4 : slots' ≤ R.slots) :
    ∃ T' v L', Stand p l e R s m args below meth c T' (locs ++ L') cells' slots' ∧ Q v T'.heap L' ∧ Go p e below m W T' (pc + 3) L (v.toList ++ rest) :=
  Go.virtUpB (Wd := Wd) (owner := owner) k X hx hZ hown hsz w1 w2 w5 w3 w4 hd hy (backOf (W := Wd) hM hZ wc wz hf hl) eT E hs ha hp hlen hW h1 h2 h3 h4
theorem Go.ifaceB {own C : String} {index count : Nat} {y z : MethodName} {Wd cells' slots' : Nat} {b : Addr} {argsL rest : List Value} {Q : Option Value → Heap → List Loc → Prop} {as' : Array Value} {ps : List FieldType} {r : Option FieldType} {rc rs : Nat}
    (k : Go p e below m W T pc L S) (X : Stand p l e R s m args below meth c T locs cells slots) (hx : p.tables.exec = Jvm.exec) (hZ : Z.Warmed39 s.vm) (hown : s.vm.findClass own = some m.cls) (hsz : L.size = c.maxLocals)
    (w1 : (Cond.methodLink own index y).before a0 Z = true) (w2 : (Cond.declares y).before a0 Z = true) (w5 : (Cond.interfaceMethod y.cls y.cls y.name y.desc).before args s = true) (w3 : (Cond.selects C y z).before a0 Z = true) (w4 : (Cond.instanceMethod z).before a0 Z = true) (w6 : (Cond.publicMethod z).before a0 Z = true) (w7 : (Cond.unhidden C y.name y.desc).before a0 Z = true) (w8 : (Cond.castable C y.cls).before a0 Z = true) (hd : decode c.code pc = .ok (.invokeinterface index count, 5)) (hy : y.cls ≠ "java/lang/invoke/MethodHandle" ∧ y.cls ≠ "java/lang/invoke/VarHandle")
    (hK : Back l R p e below s args z 5 Wd (fun A a => a = as' ∧ A.U.heap = h ∧ A.cells + rc ≤ R.cells ∧ A.slots + rs ≤ R.slots) (fun A _ v B => ∃ L, Q v B.U.heap L ∧ B.locs = A.locs ++ L ∧ B.cells = A.cells + rc ∧ B.slots = A.slots + rs))
    (eT : T.heap = h) (E : Exa Z h b C) (hs : S = argsL.reverse ++ .ref b :: rest) (ha : (.ref b :: argsL).toArray = as') (hp : parseMethodDescriptor y.desc = some ⟨ps, r⟩) (hlen : argsL.length = ps.length) (hW : (rest.map fun v => v.category).sum ≤ Wd) (h1 : cells + rc = cells') (h2 : slots + rs = slots') (h3 : cells' ≤ R.cells) (h4 : slots' ≤ R.slots) :
    ∃ T' v L', Stand p l e R s m args below meth c T' (locs ++ L') cells' slots' ∧ Q v T'.heap L' ∧ Go p e below m W T' (pc + 5) L (v.toList ++ rest) := by
  subst hs h1 h2
  obtain ⟨cq, kq, qa, qb, qc⟩ := isOf hZ eT E
  obtain ⟨v, _, ⟨T', L', k', n'⟩, -, X', ⟨Lc, hQ, l1, y1, z1⟩, st⟩ := X.interfaceBack hx (xi := y) (y := z) (count := count) hown (mvT hZ w1) (mvT hZ w2) w5 (mvT hZ w3) (mvT hZ w4) (mvT hZ w6) (mvT hZ w7) (mvT hZ w8) hy hK qa qb qc (g := mkF m pc L (argsL.reverse ++ .ref b :: rest)) rfl hsz (Steps.refl _) (argsL := argsL) (rest := rest) (lenOf hp hlen) rfl (by show 2 * 0 + _ ≤ _; rw [Nat.mul_zero, Nat.zero_add]; exact hW) hd (fun _ _ => ⟨ha, eT, h3, h4⟩)
  dsimp only [Pt.U, Pt.locs, Pt.cells, Pt.slots] at X' l1 y1 z1 st hQ
  subst l1 y1 z1
  exact ⟨T', v, Lc, X', hQ, fun t kt => k t (st.trans kt)⟩
theorem Go.iface {own C : String} {index count : Nat} {y z : MethodName} {Wd cells' slots' : Nat} {b : Addr} {argsL rest : List Value} {Q : Option Value → Heap → List Loc → Prop} {as' : Array Value} {ps : List FieldType} {r : Option FieldType} {bytes : ByteArray} {maxL : Nat} {ret : Option FieldType} {rm : Room}
    (k : Go p e below m W T pc L S) (X : Stand p l e R s m args below meth c T locs cells slots) (hx : p.tables.exec = Jvm.exec) (hZ : Z.Warmed39 s.vm) (hown : s.vm.findClass own = some m.cls) (hsz : L.size = c.maxLocals)
    (w1 : (Cond.methodLink own index y).before a0 Z = true) (w2 : (Cond.declares y).before a0 Z = true) (w5 : (Cond.interfaceMethod y.cls y.cls y.name y.desc).before args s = true) (w3 : (Cond.selects C y z).before a0 Z = true) (w4 : (Cond.instanceMethod z).before a0 Z = true) (w6 : (Cond.publicMethod z).before a0 Z = true) (w7 : (Cond.unhidden C y.name y.desc).before a0 Z = true) (w8 : (Cond.castable C y.cls).before a0 Z = true) (wc : (Cond.code z bytes maxL ret).before a0 Z = true) (wz : (Cond.initialized z.cls).before a0 Z = true) (hd : decode c.code pc = .ok (.invokeinterface index count, 5)) (hy : y.cls ≠ "java/lang/invoke/MethodHandle" ∧ y.cls ≠ "java/lang/invoke/VarHandle")
    (hM : MetFree l z (head1 [Cond.code z bytes maxL ret] rm) (fun a U => a = as' ∧ Z.Warmed39 U.vm ∧ U.heap = h) (fun _ _ _ _ _ => True) (fun _ U o U' => ∃ v L, o = .returned v ∧ Q v U'.heap L ∧ FrameEnd U o U' L rm.cells rm.slots))
    (eT : T.heap = h) (E : Exa Z h b C) (hs : S = argsL.reverse ++ .ref b :: rest) (ha : (.ref b :: argsL).toArray = as') (hp : parseMethodDescriptor y.desc = some ⟨ps, r⟩) (hlen : argsL.length = ps.length) (hW : (rest.map fun v => v.category).sum ≤ Wd) (hf : rm.frames + 1 ≤ R.frames) (hl : Wd + (maxL + 11) + rm.locals ≤ R.locals) (h1 : cells + rm.cells = cells') (h2 : slots + rm.slots = slots') (h3 : cells' ≤ R.cells) (h4 : slots' ≤ R.slots) :
    ∃ T' v L', Stand p l e R s m args below meth c T' (locs ++ L') cells' slots' ∧ Q v T'.heap L' ∧ Go p e below m W T' (pc + 5) L (v.toList ++ rest) :=
  Go.ifaceB (Wd := Wd) k X hx hZ hown hsz w1 w2 w5 w3 w4 w6 w7 w8 hd hy (backOf (W := Wd) hM hZ wc wz hf hl) eT E hs ha hp hlen hW h1 h2 h3 h4
theorem Go.specB {own : String} {index : Nat} {y : MethodName} {bytes : ByteArray} {maxL : Nat} {Wd cells' slots' : Nat} {b : Addr} {argsL rest : List Value} {Q : Option Value → Heap → List Loc → Prop} {as' : Array Value} {ps : List FieldType} {r : Option FieldType} {rc rs : Nat}
    (k : Go p e below m W T pc L S) (X : Stand p l e R s m args below meth c T locs cells slots) (hx : p.tables.exec = Jvm.exec) (hZ : Z.Warmed39 s.vm) (hown : s.vm.findClass own = some m.cls) (hsz : L.size = c.maxLocals)
    (hy1 : y.name = "<init>") (w1 : (Cond.methodLink own index y).before a0 Z = true) (w2 : (Cond.instanceMethod y).before a0 Z = true) (wc : (Cond.code y bytes maxL none).before a0 Z = true) (hd : decode c.code pc = .ok (.invokespecial index, 3)) (hy : y.cls ≠ "java/lang/invoke/MethodHandle" ∧ y.cls ≠ "java/lang/invoke/VarHandle")
    (hK : Back l R p e below s args y 3 Wd (fun A a => a = as' ∧ A.U.heap = h ∧ A.cells + rc ≤ R.cells ∧ A.slots + rs ≤ R.slots) (fun A _ v B => ∃ L, Q v B.U.heap L ∧ B.locs = A.locs ++ L ∧ B.cells = A.cells + rc ∧ B.slots = A.slots + rs))
    (eT : T.heap = h) (hs : S = argsL.reverse ++ .ref b :: rest) (ha : (.ref b :: argsL).toArray = as') (hp : parseMethodDescriptor y.desc = some ⟨ps, r⟩) (hlen : argsL.length = ps.length) (hW : (rest.map fun v => v.category).sum ≤ Wd) (h1 : cells + rc = cells') (h2 : slots + rs = slots') (h3 : cells' ≤ R.cells) (h4 : slots' ≤ R.slots) :
    ∃ T' v L', Stand p l e R s m args below meth c T' (locs ++ L') cells' slots' ∧ Q v T'.heap L' ∧ Go p e below m W T' (pc + 3) L (v.toList ++ rest) := by
  subst hs h1 h2
  obtain ⟨v, _, ⟨T', L', k', n'⟩, -, X', ⟨Lc, hQ, l1, y1, z1⟩, st⟩ := X.specialBack hx (y := y) hy1 hown (mvT hZ w1) (mvT hZ w2) (mvT hZ wc) hy hK (g := mkF m pc L (argsL.reverse ++ .ref b :: rest)) rfl hsz (Steps.refl _) (a := b) (argsL := argsL) (rest := rest) (lenOf hp hlen) rfl (by show 2 * 0 + _ ≤ _; rw [Nat.mul_zero, Nat.zero_add]; exact hW) hd (fun _ _ => ⟨ha, eT, h3, h4⟩)
  dsimp only [Pt.U, Pt.locs, Pt.cells, Pt.slots] at X' l1 y1 z1 st hQ
  subst l1 y1 z1
  exact ⟨T', v, Lc, X', hQ, fun t kt => k t (st.trans kt)⟩
theorem Go.spec {own : String} {index : Nat} {y : MethodName} {bytes : ByteArray} {maxL : Nat} {Wd cells' slots' : Nat} {b : Addr} {argsL rest : List Value} {Q : Option Value → Heap → List Loc → Prop} {as' : Array Value} {ps : List FieldType} {r : Option FieldType} {rm : Room}
    (k : Go p e below m W T pc L S) (X : Stand p l e R s m args below meth c T locs cells slots) (hx : p.tables.exec = Jvm.exec) (hZ : Z.Warmed39 s.vm) (hown : s.vm.findClass own = some m.cls) (hsz : L.size = c.maxLocals)
    (hy1 : y.name = "<init>") (w1 : (Cond.methodLink own index y).before a0 Z = true) (w2 : (Cond.instanceMethod y).before a0 Z = true)  (wc : (Cond.code y bytes maxL none).before a0 Z = true) (wz : (Cond.initialized y.cls).before a0 Z = true) (hd : decode c.code pc = .ok (.invokespecial index, 3)) (hy : y.cls ≠ "java/lang/invoke/MethodHandle" ∧ y.cls ≠ "java/lang/invoke/VarHandle")
    (hM : MetFree l y (head1 [Cond.code y bytes maxL none] rm) (fun a U => a = as' ∧ Z.Warmed39 U.vm ∧ U.heap = h) (fun _ _ _ _ _ => True) (fun _ U o U' => ∃ v L, o = .returned v ∧ Q v U'.heap L ∧ FrameEnd U o U' L rm.cells rm.slots))
    (eT : T.heap = h) (hs : S = argsL.reverse ++ .ref b :: rest) (ha : (.ref b :: argsL).toArray = as') (hp : parseMethodDescriptor y.desc = some ⟨ps, r⟩) (hlen : argsL.length = ps.length) (hW : (rest.map fun v => v.category).sum ≤ Wd) (hf : rm.frames + 1 ≤ R.frames) (hl : Wd + (maxL + 11) + rm.locals ≤ R.locals) (h1 : cells + rm.cells = cells') (h2 : slots + rm.slots = slots') (h3 : cells' ≤ R.cells) (h4 : slots' ≤ R.slots) :
    ∃ T' v L', Stand p l e R s m args below meth c T' (locs ++ L') cells' slots' ∧ Q v T'.heap L' ∧ Go p e below m W T' (pc + 3) L (v.toList ++ rest) :=
  Go.specB (Wd := Wd) k X hx hZ hown hsz hy1 w1 w2 wc hd hy (backOf (W := Wd) hM hZ wc wz hf hl) eT hs ha hp hlen hW h1 h2 h3 h4
theorem Go.statB {own : String} {index : Nat} {y : MethodName} {bytes : ByteArray} {maxL : Nat} {ret : Option FieldType} {Wd cells' slots' : Nat} {argsL rest : List Value} {Q : Option Value → Heap → List Loc → Prop} {as' : Array Value} {ps : List FieldType} {r : Option FieldType} {rc rs : Nat}
    (k : Go p e below m W T pc L S) (X : Stand p l e R s m args below meth c T locs cells slots) (hx : p.tables.exec = Jvm.exec) (hZ : Z.Warmed39 s.vm) (hown : s.vm.findClass own = some m.cls) (hsz : L.size = c.maxLocals)
    (w1 : (Cond.methodLink own index y).before a0 Z = true) (w2 : (Cond.static y).before a0 Z = true) (wc : (Cond.code y bytes maxL ret).before a0 Z = true) (wz : (Cond.initialized y.cls).before a0 Z = true) (hd : decode c.code pc = .ok (.invokestatic index, 3)) (hy : y.cls ≠ "java/lang/invoke/MethodHandle" ∧ y.cls ≠ "java/lang/invoke/VarHandle")
    (hK : Back l R p e below s args y 3 Wd (fun A a => a = as' ∧ A.U.heap = h ∧ A.cells + rc ≤ R.cells ∧ A.slots + rs ≤ R.slots) (fun A _ v B => ∃ L, Q v B.U.heap L ∧ B.locs = A.locs ++ L ∧ B.cells = A.cells + rc ∧ B.slots = A.slots + rs))
    (eT : T.heap = h) (hs : S = argsL.reverse ++ rest) (ha : argsL.toArray = as') (hp : parseMethodDescriptor y.desc = some ⟨ps, r⟩) (hlen : argsL.length = ps.length) (hW : (rest.map fun v => v.category).sum ≤ Wd) (h1 : cells + rc = cells') (h2 : slots + rs = slots') (h3 : cells' ≤ R.cells) (h4 : slots' ≤ R.slots) :
    ∃ T' v L', Stand p l e R s m args below meth c T' (locs ++ L') cells' slots' ∧ Q v T'.heap L' ∧ Go p e below m W T' (pc + 3) L (v.toList ++ rest) := by
  subst hs h1 h2
  obtain ⟨v, _, ⟨T', L', k', n'⟩, -, X', ⟨Lc, hQ, l1, y1, z1⟩, st⟩ := Jvm.LawKit.callS X hx (y := y) hown (mvT hZ w1) (mvT hZ w2) (mvT hZ wz) (mvT hZ wc) hy hK (g := mkF m pc L (argsL.reverse ++ rest)) rfl hsz (argsL := argsL) (rest := rest) (lenOf hp hlen) rfl (by show 2 * 0 + _ ≤ _; rw [Nat.mul_zero, Nat.zero_add]; exact hW) hd (fun _ _ => ⟨ha, eT, h3, h4⟩)
  dsimp only [Pt.U, Pt.locs, Pt.cells, Pt.slots] at X' l1 y1 z1 st hQ
  subst l1 y1 z1
  exact ⟨T', v, Lc, X', hQ, fun t kt => k t (st t kt)⟩
theorem Go.stat {own : String} {index : Nat} {y : MethodName} {bytes : ByteArray} {maxL : Nat} {ret : Option FieldType} {Wd cells' slots' : Nat} {argsL rest : List Value} {Q : Option Value → Heap → List Loc → Prop} {as' : Array Value} {ps : List FieldType} {r : Option FieldType} {rm : Room}
    (k : Go p e below m W T pc L S) (X : Stand p l e R s m args below meth c T locs cells slots) (hx : p.tables.exec = Jvm.exec) (hZ : Z.Warmed39 s.vm) (hown : s.vm.findClass own = some m.cls) (hsz : L.size = c.maxLocals)
    (w1 : (Cond.methodLink own index y).before a0 Z = true) (w2 : (Cond.static y).before a0 Z = true)  (wc : (Cond.code y bytes maxL ret).before a0 Z = true) (wz : (Cond.initialized y.cls).before a0 Z = true) (hd : decode c.code pc = .ok (.invokestatic index, 3)) (hy : y.cls ≠ "java/lang/invoke/MethodHandle" ∧ y.cls ≠ "java/lang/invoke/VarHandle")
    (hM : MetFree l y (head1 [Cond.code y bytes maxL ret] rm) (fun a U => a = as' ∧ Z.Warmed39 U.vm ∧ U.heap = h) (fun _ _ _ _ _ => True) (fun _ U o U' => ∃ v L, o = .returned v ∧ Q v U'.heap L ∧ FrameEnd U o U' L rm.cells rm.slots))
    (eT : T.heap = h) (hs : S = argsL.reverse ++ rest) (ha : argsL.toArray = as') (hp : parseMethodDescriptor y.desc = some ⟨ps, r⟩) (hlen : argsL.length = ps.length) (hW : (rest.map fun v => v.category).sum ≤ Wd) (hf : rm.frames + 1 ≤ R.frames) (hl : Wd + (maxL + 11) + rm.locals ≤ R.locals) (h1 : cells + rm.cells = cells') (h2 : slots + rm.slots = slots') (h3 : cells' ≤ R.cells) (h4 : slots' ≤ R.slots) :
    ∃ T' v L', Stand p l e R s m args below meth c T' (locs ++ L') cells' slots' ∧ Q v T'.heap L' ∧ Go p e below m W T' (pc + 3) L (v.toList ++ rest) :=
  Go.statB (Wd := Wd) k X hx hZ hown hsz w1 w2 wc wz hd hy (backOf (W := Wd) hM hZ wc wz hf hl) eT hs ha hp hlen hW h1 h2 h3 h4
theorem Go.privB {own C : String} {index : Nat} {y : MethodName} {bytes : ByteArray} {maxL : Nat} {ret : Option FieldType} {Wd cells' slots' : Nat} {b : Addr} {argsL rest : List Value} {Q : Option Value → Heap → List Loc → Prop} {as' : Array Value} {ps : List FieldType} {r : Option FieldType} {rc rs : Nat}
    (k : Go p e below m W T pc L S) (X : Stand p l e R s m args below meth c T locs cells slots) (hx : p.tables.exec = Jvm.exec) (hZ : Z.Warmed39 s.vm) (hown : s.vm.findClass own = some m.cls) (hsz : L.size = c.maxLocals)
    (w1 : (Cond.methodLink own index y).before a0 Z = true) (w2 : (Cond.instanceMethod y).before a0 Z = true) (w3 : (Cond.selects y.cls y y).before a0 Z = true) (w4 : (Cond.privateMethod y).before a0 Z = true) (wc : (Cond.code y bytes maxL ret).before a0 Z = true)
    (hd : decode c.code pc = .ok (.invokevirtual index, 3)) (hy : y.cls ≠ "java/lang/invoke/MethodHandle" ∧ y.cls ≠ "java/lang/invoke/VarHandle")
    (hK : Back l R p e below s args y 3 Wd (fun A a => a = as' ∧ A.U.heap = h ∧ A.cells + rc ≤ R.cells ∧ A.slots + rs ≤ R.slots) (fun A _ v B => ∃ L, Q v B.U.heap L ∧ B.locs = A.locs ++ L ∧ B.cells = A.cells + rc ∧ B.slots = A.slots + rs))
    (eT : T.heap = h) (E : Exa Z h b C) (hs : S = argsL.reverse ++ .ref b :: rest) (ha : (.ref b :: argsL).toArray = as') (hp : parseMethodDescriptor y.desc = some ⟨ps, r⟩) (hlen : argsL.length = ps.length) (hW : (rest.map fun v => v.category).sum ≤ Wd) (h1 : cells + rc = cells') (h2 : slots + rs = slots') (h3 : cells' ≤ R.cells) (h4 : slots' ≤ R.slots) :
    ∃ T' v L', Stand p l e R s m args below meth c T' (locs ++ L') cells' slots' ∧ Q v T'.heap L' ∧ Go p e below m W T' (pc + 3) L (v.toList ++ rest) := by
  subst hs h1 h2
  obtain ⟨cq, q1, q2⟩ := E.cell
  obtain ⟨v, _, ⟨T', L', k', n'⟩, -, X', ⟨Lc, hQ, l1, y1, z1⟩, st⟩ := X.privateBack hx (y := y) hown (mvT hZ w1) (mvT hZ w2) (mvT hZ w3) (Cond.privateMethod_at (mvP hZ w4 (args := #[]))) (mvT hZ wc) hy hK (g := mkF m pc L (argsL.reverse ++ .ref b :: rest)) rfl hsz (Steps.refl _) (a := b) (by rw [eT]; exact q1) q2 (argsL := argsL) (rest := rest) (lenOf hp hlen) rfl (by show 2 * 0 + _ ≤ _; rw [Nat.mul_zero, Nat.zero_add]; exact hW) hd (fun _ _ => ⟨ha, eT, h3, h4⟩)
  dsimp only [Pt.U, Pt.locs, Pt.cells, Pt.slots] at X' l1 y1 z1 st hQ
  subst l1 y1 z1
  exact ⟨T', v, Lc, X', hQ, fun t kt => k t (st.trans kt)⟩
theorem Go.priv {own C : String} {index : Nat} {y : MethodName} {bytes : ByteArray} {maxL : Nat} {ret : Option FieldType} {Wd cells' slots' : Nat} {b : Addr} {argsL rest : List Value} {Q : Option Value → Heap → List Loc → Prop} {as' : Array Value} {ps : List FieldType} {r : Option FieldType} {rm : Room}
    (k : Go p e below m W T pc L S) (X : Stand p l e R s m args below meth c T locs cells slots) (hx : p.tables.exec = Jvm.exec) (hZ : Z.Warmed39 s.vm) (hown : s.vm.findClass own = some m.cls) (hsz : L.size = c.maxLocals)
    (w1 : (Cond.methodLink own index y).before a0 Z = true) (w2 : (Cond.instanceMethod y).before a0 Z = true) (w3 : (Cond.selects y.cls y y).before a0 Z = true) (w4 : (Cond.privateMethod y).before a0 Z = true) (wc : (Cond.code y bytes maxL ret).before a0 Z = true) (wz : (Cond.initialized y.cls).before a0 Z = true)
    (hd : decode c.code pc = .ok (.invokevirtual index, 3)) (hy : y.cls ≠ "java/lang/invoke/MethodHandle" ∧ y.cls ≠ "java/lang/invoke/VarHandle")
    (hM : MetFree l y (head1 [Cond.code y bytes maxL ret] rm) (fun a U => a = as' ∧ Z.Warmed39 U.vm ∧ U.heap = h) (fun _ _ _ _ _ => True) (fun _ U o U' => ∃ v L, o = .returned v ∧ Q v U'.heap L ∧ FrameEnd U o U' L rm.cells rm.slots))
    (eT : T.heap = h) (E : Exa Z h b C) (hs : S = argsL.reverse ++ .ref b :: rest) (ha : (.ref b :: argsL).toArray = as') (hp : parseMethodDescriptor y.desc = some ⟨ps, r⟩) (hlen : argsL.length = ps.length) (hW : (rest.map fun v => v.category).sum ≤ Wd) (hf : rm.frames + 1 ≤ R.frames) (hl : Wd + (maxL + 11) + rm.locals ≤ R.locals) (h1 : cells + rm.cells = cells') (h2 : slots + rm.slots = slots') (h3 : cells' ≤ R.cells) (h4 : slots' ≤ R.slots) :
    ∃ T' v L', Stand p l e R s m args below meth c T' (locs ++ L') cells' slots' ∧ Q v T'.heap L' ∧ Go p e below m W T' (pc + 3) L (v.toList ++ rest) :=
  Go.privB (Wd := Wd) k X hx hZ hown hsz w1 w2 w3 w4 wc hd hy (backOf (W := Wd) hM hZ wc wz hf hl) eT E hs ha hp hlen hW h1 h2 h3 h4
theorem Go.castY {own K : String} {index : Nat} {a : Addr} (k : Go p e below m W T pc L (.ref a :: S)) (X : Stand p l e R s m args below meth c T locs cells slots) (hx : p.tables.exec = Jvm.exec) (hZ : Z.Warmed39 s.vm) (hown : s.vm.findClass own = some m.cls) (w : (Cond.classLink own index K).before a0 Z = true) (eT : T.heap = h) (F : Ins Z h a K true) (hd : decode c.code pc = .ok (.checkcast index, 3)) :
    ∃ T', Stand p l e R s m args below meth c T' locs cells slots ∧ T'.heap = h ∧ Go p e below m W T' (pc + 3) L (.ref a :: S) := by
  obtain ⟨T', X', e', st⟩ := Jvm.RoadKit.castY X hx hZ hown w eT F (g := mkF m pc L (.ref a :: S)) rfl rfl hd
  exact ⟨T', X', e', fun t kt => k t (st t kt)⟩
theorem Go.instY {own K : String} {index : Nat} {a : Addr} (k : Go p e below m W T pc L (.ref a :: S)) (X : Stand p l e R s m args below meth c T locs cells slots) (hx : p.tables.exec = Jvm.exec) (hZ : Z.Warmed39 s.vm) (hown : s.vm.findClass own = some m.cls) (w : (Cond.classLink own index K).before a0 Z = true) (eT : T.heap = h) (F : Ins Z h a K true) (hd : decode c.code pc = .ok (.instanceof index, 3)) :
    ∃ T', Stand p l e R s m args below meth c T' locs cells slots ∧ T'.heap = h ∧ Go p e below m W T' (pc + 3) L (.int 1 :: S) := by
  obtain ⟨T', X', e', st⟩ := Jvm.RoadKit.instY X hx hZ hown w eT F (g := mkF m pc L (.ref a :: S)) rfl rfl hd
  exact ⟨T', X', e', fun t kt => k t (st t kt)⟩
theorem Go.instNull {index : Nat} (k : Go p e below m W T pc L (.null :: S)) (X : Stand p l e R s m args below meth c T locs cells slots) (hx : p.tables.exec = Jvm.exec) (hd : decode c.code pc = .ok (.instanceof index, 3)) : Go p e below m W T (pc + 3) L (.int 0 :: S) := fun t kt => k t (X.instanceofNull hx (g := mkF m pc L (.null :: S)) rfl rfl hd t kt)
theorem Go.castNull {index : Nat} (k : Go p e below m W T pc L (.null :: S)) (X : Stand p l e R s m args below meth c T locs cells slots) (hx : p.tables.exec = Jvm.exec) (hd : decode c.code pc = .ok (.checkcast index, 3)) : Go p e below m W T (pc + 3) L (.null :: S) := fun t kt => k t (X.checkcastNull hx (g := mkF m pc L (.null :: S)) rfl rfl hd t kt)
theorem Go.cast {x y : Int32} (k : Go p e below m W T pc L (.int x :: S)) (q : x = y) : Go p e below m W T pc L (.int y :: S) := q ▸ k
theorem Go.castJ {x y : Int64} (k : Go p e below m W T pc L (.long x :: S)) (q : x = y) : Go p e below m W T pc L (.long y :: S) := q ▸ k
/-! the ways out of a body -/
abbrev Done (p : Program) (e : Env) (below : List Frame) (s W : State) (Q : Option Value → Heap → List Loc → Prop) (rc rs : Nat) : Prop :=
  ∃ s₂ o, Steps p.tables e below W s₂ ∧ s₂.status = .running ∧ Ended s₂ below o ∧ ∃ v L, o = .returned v ∧ Q v s₂.heap L ∧ FrameEnd s o s₂ L rc rs
theorem Go.ireturnN {t : FieldType} {x : Int32} {Q : Option Value → Heap → List Loc → Prop} {rc rs : Nat} (k : Go p e below m W T pc L (.int x :: S)) (X : Stand p l e R s m args below meth c T locs cells slots) (hx : p.tables.exec = Jvm.exec) (hret : meth.sig.returnType = some t) (ht : t = .boolean ∨ t = .byte ∨ t = .char ∨ t = .short) (hn : nar t x = x) (hd : decode c.code pc = .ok (.ireturn, 1)) (hlk : meth.locks = false) (hq : Q (some (.int x)) T.heap locs) (h1 : cells ≤ rc) (h2 : slots ≤ rs) : Done p e below s W Q rc rs := by
  obtain ⟨fs, hr, hrun, hended, hW, hsame⟩ := X.leave (v := some (.int x)) (fun q => by rw [hret] at q; cases q) hlk
  refine ⟨_, _, k _ (retN X hx hret ht hd (by rw [hn]; exact hr)), hrun, hended, _, _, rfl, hq, ⟨_, rfl⟩, hW, hsame.mono h1 h2⟩
theorem Go.ireturnI {x : Int32} {Q : Option Value → Heap → List Loc → Prop} {rc rs : Nat} (k : Go p e below m W T pc L (.int x :: S)) (X : Stand p l e R s m args below meth c T locs cells slots) (hx : p.tables.exec = Jvm.exec) (hret : meth.sig.returnType = some .int) (hd : decode c.code pc = .ok (.ireturn, 1)) (hlk : meth.locks = false) (hq : Q (some (.int x)) T.heap locs) (h1 : cells ≤ rc) (h2 : slots ≤ rs) : Done p e below s W Q rc rs := by
  obtain ⟨fs, hr, hrun, hended, hW, hsame⟩ := X.leave (v := some (.int x)) (fun q => by rw [hret] at q; cases q) hlk
  refine ⟨_, _, k _ (retI X hx hret hd hr), hrun, hended, _, _, rfl, hq, ⟨_, rfl⟩, hW, hsame.mono h1 h2⟩
theorem Go.return_ {Q : Option Value → Heap → List Loc → Prop} {rc rs : Nat} (k : Go p e below m W T pc L []) (X : Stand p l e R s m args below meth c T locs cells slots) (hx : p.tables.exec = Jvm.exec) (hret : meth.sig.returnType = none) (hd : decode c.code pc = .ok (.return_, 1)) (hlk : meth.locks = false) (hq : Q none T.heap locs) (h1 : cells ≤ rc) (h2 : slots ≤ rs) : Done p e below s W Q rc rs := by
  obtain ⟨fs, hr, hrun, hended, hW, hsame⟩ := X.leave (v := none) (fun _ => rfl) hlk
  refine ⟨_, _, k _ (X.returnOut hx hret hd hr), hrun, hended, _, _, rfl, hq, ⟨_, rfl⟩, hW, hsame.mono h1 h2⟩
theorem Go.areturn {t : FieldType} {v : Value} {Q : Option Value → Heap → List Loc → Prop} {rc rs : Nat} (k : Go p e below m W T pc L (v :: S)) (X : Stand p l e R s m args below meth c T locs cells slots) (hx : p.tables.exec = Jvm.exec) (hret : meth.sig.returnType = some t) (ht : t.isReference = true) (hv : v.isRef = true) (hd : decode c.code pc = .ok (.areturn, 1)) (hlk : meth.locks = false) (hq : Q (some v) T.heap locs) (h1 : cells ≤ rc) (h2 : slots ≤ rs) : Done p e below s W Q rc rs := by
  obtain ⟨fs, hr, hrun, hended, hW, hsame⟩ := X.leave (v := some v) (fun q => by rw [hret] at q; cases q) hlk
  refine ⟨_, _, k _ ?_, hrun, hended, _, _, rfl, hq, ⟨_, rfl⟩, hW, hsame.mono h1 h2⟩
  jvm_step X.here [X.here.top, hx, hd, X.method', hret, hv, ht]
  first | (intro acts; rw [hr _ acts rfl rfl rfl]) | rw [hr _ _ rfl rfl rfl]
  exact Steps.refl _

theorem own_in {cl : Cell} {z j : Int32} {i n : Nat} (S1 : cl.slots.size = z.toNatClampNeg) (hz : z.toNatClampNeg = n) (hj : j.toNatClampNeg = i) (hj0 : ¬ j < 0) (hi : i < n) : ¬ (j < 0 ∨ cl.slots.size ≤ j.toNatClampNeg) := by
  intro q
  rcases q with q | q
  · exact hj0 q
  · rw [S1, hz, hj] at q; omega

theorem Go.iastore {a : Addr} {kc : ClassId} {z j : Int32} {vs : List Value} {d : Value} {i : Nat} {n0 : Nat} {x : Int32} (k : Go p e below m W T pc L (.int x :: .int j :: .ref a :: S)) (X : Stand p l e R s m args below meth c T locs cells slots) (hx : p.tables.exec = Jvm.exec) (hZ : Z.Warmed39 s.vm) (eT : T.heap = h) (Va : Arv Z h a kc .int z vs d) (hz : z.toNatClampNeg = vs.length) (hj : j.toNatClampNeg = i) (hj0 : ¬ j < 0) (hi : i < vs.length) (N : Fr n0 locs) (g0 : n0 ≤ a) (hd : decode c.code pc = .ok (.iastore, 1)) :
    ∃ T' h' locs', Stand p l e R s m args below meth c T' locs' cells slots ∧ T'.heap = h' ∧ Wr h h' a j.toNatClampNeg (.int x) ∧ Arv Z h' a kc .int z (vs.set i (.int x)) d ∧ Fr n0 locs' ∧ Go p e below m W T' (pc + 1) L S := by
  obtain ⟨cl, A, q1, S1, q3, H, G⟩ := Va
  have hin := own_in S1 hz hj hj0 hi
  obtain ⟨T', h', X', e', W', st⟩ := Jvm.RoadKit.stI X hx hZ eT A hin (g := mkF m pc L (.int x :: .int j :: .ref a :: S)) rfl rfl hd
  exact ⟨T', h', _, X', e', W', Arv.set A q1 S1 q3 H G rfl W' i hj hi, Fr.snoc X' N g0, fun t kt => k t (st t kt)⟩

theorem Go.lastore {a : Addr} {kc : ClassId} {z j : Int32} {vs : List Value} {d : Value} {i : Nat} {n0 : Nat} {x : Int64} (k : Go p e below m W T pc L (.long x :: .int j :: .ref a :: S)) (X : Stand p l e R s m args below meth c T locs cells slots) (hx : p.tables.exec = Jvm.exec) (hZ : Z.Warmed39 s.vm) (eT : T.heap = h) (Va : Arv Z h a kc .long z vs d) (hz : z.toNatClampNeg = vs.length) (hj : j.toNatClampNeg = i) (hj0 : ¬ j < 0) (hi : i < vs.length) (N : Fr n0 locs) (g0 : n0 ≤ a) (hd : decode c.code pc = .ok (.lastore, 1)) :
    ∃ T' h' locs', Stand p l e R s m args below meth c T' locs' cells slots ∧ T'.heap = h' ∧ Wr h h' a j.toNatClampNeg (.long x) ∧ Arv Z h' a kc .long z (vs.set i (.long x)) d ∧ Fr n0 locs' ∧ Go p e below m W T' (pc + 1) L S := by
  obtain ⟨cl, A, q1, S1, q3, H, G⟩ := Va
  have hin := own_in S1 hz hj hj0 hi
  obtain ⟨T', h', X', e', W', st⟩ := Jvm.RoadKit.stJ X hx hZ eT A hin (g := mkF m pc L (.long x :: .int j :: .ref a :: S)) rfl rfl hd
  exact ⟨T', h', _, X', e', W', Arv.set A q1 S1 q3 H G rfl W' i hj hi, Fr.snoc X' N g0, fun t kt => k t (st t kt)⟩

theorem Go.castore {a : Addr} {kc : ClassId} {z j : Int32} {vs : List Value} {d : Value} {i : Nat} {n0 : Nat} {x : Int32} (k : Go p e below m W T pc L (.int x :: .int j :: .ref a :: S)) (X : Stand p l e R s m args below meth c T locs cells slots) (hx : p.tables.exec = Jvm.exec) (hZ : Z.Warmed39 s.vm) (eT : T.heap = h) (Va : Arv Z h a kc .char z vs d) (hz : z.toNatClampNeg = vs.length) (hj : j.toNatClampNeg = i) (hj0 : ¬ j < 0) (hi : i < vs.length) (N : Fr n0 locs) (g0 : n0 ≤ a) (hd : decode c.code pc = .ok (.castore, 1)) :
    ∃ T' h' locs', Stand p l e R s m args below meth c T' locs' cells slots ∧ T'.heap = h' ∧ Wr h h' a j.toNatClampNeg (.int (nar .char x)) ∧ Arv Z h' a kc .char z (vs.set i (.int (nar .char x))) d ∧ Fr n0 locs' ∧ Go p e below m W T' (pc + 1) L S := by
  obtain ⟨cl, A, q1, S1, q3, H, G⟩ := Va
  have hin := own_in S1 hz hj hj0 hi
  obtain ⟨T', h', X', e', W', st⟩ := Jvm.RoadKit.stC X hx hZ eT A hin (g := mkF m pc L (.int x :: .int j :: .ref a :: S)) rfl rfl hd
  exact ⟨T', h', _, X', e', W', Arv.set A q1 S1 q3 H G (fits_nar_char x) W' i hj hi, Fr.snoc X' N g0, fun t kt => k t (st t kt)⟩

theorem Go.bastore {a : Addr} {kc : ClassId} {z j : Int32} {vs : List Value} {d : Value} {i : Nat} {n0 : Nat} {x : Int32} (k : Go p e below m W T pc L (.int x :: .int j :: .ref a :: S)) (X : Stand p l e R s m args below meth c T locs cells slots) (hx : p.tables.exec = Jvm.exec) (hZ : Z.Warmed39 s.vm) (eT : T.heap = h) (Va : Arv Z h a kc .byte z vs d) (hz : z.toNatClampNeg = vs.length) (hj : j.toNatClampNeg = i) (hj0 : ¬ j < 0) (hi : i < vs.length) (N : Fr n0 locs) (g0 : n0 ≤ a) (hd : decode c.code pc = .ok (.bastore, 1)) :
    ∃ T' h' locs', Stand p l e R s m args below meth c T' locs' cells slots ∧ T'.heap = h' ∧ Wr h h' a j.toNatClampNeg (.int (nar .byte x)) ∧ Arv Z h' a kc .byte z (vs.set i (.int (nar .byte x))) d ∧ Fr n0 locs' ∧ Go p e below m W T' (pc + 1) L S := by
  obtain ⟨cl, A, q1, S1, q3, H, G⟩ := Va
  have hin := own_in S1 hz hj hj0 hi
  obtain ⟨T', h', X', e', W', st⟩ := Jvm.RoadKit.stB X hx hZ eT A hin (g := mkF m pc L (.int x :: .int j :: .ref a :: S)) rfl rfl hd
  exact ⟨T', h', _, X', e', W', Arv.set A q1 S1 q3 H G (fits_nar_byte x) W' i hj hi, Fr.snoc X' N g0, fun t kt => k t (st t kt)⟩

theorem Go.aastore {a : Addr} {kc : ClassId} {C : String} {z j : Int32} {vs : List Value} {d v : Value} {i : Nat} {n0 : Nat} (k : Go p e below m W T pc L (v :: .int j :: .ref a :: S)) (X : Stand p l e R s m args below meth c T locs cells slots) (hx : p.tables.exec = Jvm.exec) (hZ : Z.Warmed39 s.vm) (eT : T.heap = h) (Va : Arv Z h a kc (.object C) z vs d) (O : Ovr Z kc C) (hv : v = .null ∨ ∃ y, v = .ref y ∧ Ins Z h y C true) (hz : z.toNatClampNeg = vs.length) (hj : j.toNatClampNeg = i) (hj0 : ¬ j < 0) (hi : i < vs.length) (N : Fr n0 locs) (g0 : n0 ≤ a) (hd : decode c.code pc = .ok (.aastore, 1)) :
    ∃ T' h' locs', Stand p l e R s m args below meth c T' locs' cells slots ∧ T'.heap = h' ∧ Wr h h' a j.toNatClampNeg v ∧ Arv Z h' a kc (.object C) z (vs.set i v) d ∧ Fr n0 locs' ∧ Go p e below m W T' (pc + 1) L S := by
  obtain ⟨cl, A, q1, S1, q3, H, G⟩ := Va
  have hin := own_in S1 hz hj hj0 hi
  have F : Sto Z h a v := by
    rcases hv with rfl | ⟨y, rfl, I⟩
    · exact Or.inl rfl
    · exact Sto.of A (q1 ▸ O) I
  have hf : fits (.object C) v = true := by rcases hv with rfl | ⟨y, rfl, I⟩ <;> rfl
  obtain ⟨T', h', X', e', W', st⟩ := Jvm.RoadKit.stR X hx hZ eT A hin rfl F (g := mkF m pc L (v :: .int j :: .ref a :: S)) rfl rfl hd
  exact ⟨T', h', _, X', e', W', Arv.set A q1 S1 q3 H G hf W' i hj hi, Fr.snoc X' N g0, fun t kt => k t (st t kt)⟩
theorem Go.newP {aty : ArrayType} {n : Int32} {cap cells' slots' : Nat} (k : Go p e below m W T pc L (.int n :: S)) (X : Stand p l e R s m args below meth c T locs cells slots) (hx : p.tables.exec = Jvm.exec) (hZ : Z.Warmed39 s.vm) (w : (Cond.arrayClass (newarray.typeOf aty)).before a0 Z = true) (eT : T.heap = h) (hd : decode c.code pc = .ok (.newarray aty, 2)) (hn : ¬ n < 0) (hcap : n.toNatClampNeg ≤ cap) (hb : cap * 8 ≤ 536870912) (h1 : cells + 1 = cells') (h2 : slots + cap = slots') (h3 : cells' ≤ R.cells) (h4 : slots' ≤ R.slots) :
    ∃ T' h' b kc, Stand p l e R s m args below meth c T' locs cells' slots' ∧ T'.heap = h' ∧ b = h.size ∧ Ext h h' ∧ (∀ len, Arv Z h' b kc (newarray.typeOf aty) n (List.replicate len (defaultValue (newarray.typeOf aty))) (defaultValue (newarray.typeOf aty))) ∧ Go p e below m W T' (pc + 2) L (.ref b :: S) := by
  subst h1 h2
  obtain ⟨T', h', kc, X', e', E', A', st⟩ := Jvm.RoadKit.newP X hx hZ w eT (g := mkF m pc L (.int n :: S)) rfl hd rfl hn hcap hb h3 h4
  exact ⟨T', h', _, kc, X', e', rfl, E', fun len => (Arv.new A' hn).pad (pad_rep [] _ len), fun t kt => k t (st t kt)⟩
theorem Go.newR {own C : String} {index : Nat} {n : Int32} {cap cells' slots' : Nat} (k : Go p e below m W T pc L (.int n :: S)) (X : Stand p l e R s m args below meth c T locs cells slots) (hx : p.tables.exec = Jvm.exec) (hZ : Z.Warmed39 s.vm) (hown : s.vm.findClass own = some m.cls) (w1 : (Cond.classLink own index C).before a0 Z = true) (w2 : (Cond.arrayOver (.object C)).before a0 Z = true) (eT : T.heap = h) (hd : decode c.code pc = .ok (.anewarray index, 3)) (hn : ¬ n < 0) (hcap : n.toNatClampNeg ≤ cap) (hb : cap * 8 ≤ 536870912) (h1 : cells + 1 = cells') (h2 : slots + cap = slots') (h3 : cells' ≤ R.cells) (h4 : slots' ≤ R.slots) :
    ∃ T' h' b kc, Stand p l e R s m args below meth c T' locs cells' slots' ∧ T'.heap = h' ∧ b = h.size ∧ Ext h h' ∧ (∀ len, Arv Z h' b kc (.object C) n (List.replicate len .null) .null) ∧ Ovr Z kc C ∧ Go p e below m W T' (pc + 3) L (.ref b :: S) := by
  subst h1 h2
  obtain ⟨T', h', kc, X', e', E', A', O', st⟩ := Jvm.RoadKit.newR X hx hZ hown w1 w2 eT (g := mkF m pc L (.int n :: S)) rfl hd rfl hn hcap hb h3 h4
  exact ⟨T', h', _, kc, X', e', rfl, E', fun len => (Arv.new A' hn).pad (pad_rep [] _ len), O', fun t kt => k t (st t kt)⟩
theorem Go.arraylength {a : Addr} {kc : ClassId} {ty : FieldType} {z : Int32} {vs : List Value} {d : Value} (k : Go p e below m W T pc L (.ref a :: S)) (X : Stand p l e R s m args below meth c T locs cells slots) (hx : p.tables.exec = Jvm.exec) (hZ : Z.Warmed39 s.vm) (eT : T.heap = h) (Va : Arv Z h a kc ty z vs d) (hd : decode c.code pc = .ok (.arraylength, 1)) : Go p e below m W T (pc + 1) L (.int z :: S) := by
  obtain ⟨cl, A, q1, S1, q3, H, G⟩ := Va
  intro t kt
  refine k t (X.arraylength hx (cell := cl) (by rw [eT]; exact A.1) (State.isArrayOf_alike hZ.alike A.2.1) (g := mkF m pc L (.ref a :: S)) rfl (rest := S) rfl hd t ?_)
  rw [len_of S1 q3]
  exact kt

theorem Go.iaload {a : Addr} {kc : ClassId} {z j : Int32} {vs : List Value} {d v : Value} {i n : Nat}  (k : Go p e below m W T pc L (.int j :: .ref a :: S)) (X : Stand p l e R s m args below meth c T locs cells slots) (hx : p.tables.exec = Jvm.exec) (hZ : Z.Warmed39 s.vm) (eT : T.heap = h) (Va : Arv Z h a kc .int z vs d) (hz : z.toNatClampNeg = n) (hj : j.toNatClampNeg = i) (hj0 : ¬ j < 0) (hi : i < n) (hv : vs.getD i d = v) (hd : decode c.code pc = .ok (.iaload, 1)) : Go p e below m W T (pc + 1) L (v :: S) := by
  obtain ⟨cl, A, q1, S1, q3, H, G⟩ := Va
  have hin := own_in S1 hz hj hj0 hi
  subst hj
  exact fun t kt => k t (X.iaload hx (j := j) (v := v) (by rw [eT]; exact A.1) (State.isArrayOf_alike hZ.alike A.2.1) A.2.2 hin (Has.at H hin hv) (g := mkF m pc L (.int j :: .ref a :: S)) rfl rfl hd t kt)

theorem Go.laload {a : Addr} {kc : ClassId} {z j : Int32} {vs : List Value} {d v : Value} {i n : Nat}  (k : Go p e below m W T pc L (.int j :: .ref a :: S)) (X : Stand p l e R s m args below meth c T locs cells slots) (hx : p.tables.exec = Jvm.exec) (hZ : Z.Warmed39 s.vm) (eT : T.heap = h) (Va : Arv Z h a kc .long z vs d) (hz : z.toNatClampNeg = n) (hj : j.toNatClampNeg = i) (hj0 : ¬ j < 0) (hi : i < n) (hv : vs.getD i d = v) (hd : decode c.code pc = .ok (.laload, 1)) : Go p e below m W T (pc + 1) L (v :: S) := by
  obtain ⟨cl, A, q1, S1, q3, H, G⟩ := Va
  have hin := own_in S1 hz hj hj0 hi
  subst hj
  exact fun t kt => k t (X.laload hx (j := j) (v := v) (by rw [eT]; exact A.1) (State.isArrayOf_alike hZ.alike A.2.1) A.2.2 hin (Has.at H hin hv) (g := mkF m pc L (.int j :: .ref a :: S)) rfl rfl hd t kt)

theorem Go.caload {a : Addr} {kc : ClassId} {z j : Int32} {vs : List Value} {d v : Value} {i n : Nat}  (k : Go p e below m W T pc L (.int j :: .ref a :: S)) (X : Stand p l e R s m args below meth c T locs cells slots) (hx : p.tables.exec = Jvm.exec) (hZ : Z.Warmed39 s.vm) (eT : T.heap = h) (Va : Arv Z h a kc .char z vs d) (hz : z.toNatClampNeg = n) (hj : j.toNatClampNeg = i) (hj0 : ¬ j < 0) (hi : i < n) (hv : vs.getD i d = v) (hd : decode c.code pc = .ok (.caload, 1)) : Go p e below m W T (pc + 1) L (v :: S) := by
  obtain ⟨cl, A, q1, S1, q3, H, G⟩ := Va
  have hin := own_in S1 hz hj hj0 hi
  subst hj
  exact fun t kt => k t (X.caload hx (j := j) (v := v) (by rw [eT]; exact A.1) (State.isArrayOf_alike hZ.alike A.2.1) A.2.2 hin (Has.at H hin hv) (g := mkF m pc L (.int j :: .ref a :: S)) rfl rfl hd t kt)

theorem Go.aaload {a : Addr} {kc : ClassId} {z j : Int32} {vs : List Value} {d v : Value} {i n : Nat} {ty : FieldType} (k : Go p e below m W T pc L (.int j :: .ref a :: S)) (X : Stand p l e R s m args below meth c T locs cells slots) (hx : p.tables.exec = Jvm.exec) (hZ : Z.Warmed39 s.vm) (eT : T.heap = h) (Va : Arv Z h a kc ty z vs d) (hz : z.toNatClampNeg = n) (hj : j.toNatClampNeg = i) (hj0 : ¬ j < 0) (hi : i < n) (hv : vs.getD i d = v) (hty : ty.isReference = true) (hd : decode c.code pc = .ok (.aaload, 1)) : Go p e below m W T (pc + 1) L (v :: S) := by
  obtain ⟨cl, A, q1, S1, q3, H, G⟩ := Va
  have hin := own_in S1 hz hj hj0 hi
  subst hj
  exact fun t kt => k t (X.aaload hx (j := j) (v := v) (by rw [eT]; exact A.1) (State.isArrayOf_alike hZ.alike A.2.1) hty A.2.2 hin (Has.at H hin hv) (g := mkF m pc L (.int j :: .ref a :: S)) rfl rfl hd t kt)

theorem Go.baload {a : Addr} {kc : ClassId} {z j : Int32} {vs : List Value} {d v : Value} {i n : Nat}  (k : Go p e below m W T pc L (.int j :: .ref a :: S)) (X : Stand p l e R s m args below meth c T locs cells slots) (hx : p.tables.exec = Jvm.exec) (hZ : Z.Warmed39 s.vm) (eT : T.heap = h) (Va : Arv Z h a kc .byte z vs d) (hz : z.toNatClampNeg = n) (hj : j.toNatClampNeg = i) (hj0 : ¬ j < 0) (hi : i < n) (hv : vs.getD i d = v) (hd : decode c.code pc = .ok (.baload, 1)) : Go p e below m W T (pc + 1) L (v :: S) := by
  obtain ⟨cl, A, q1, S1, q3, H, G⟩ := Va
  have hin := own_in S1 hz hj hj0 hi
  subst hj
  exact fun t kt => k t (X.baloadBytes hx (j := j) (v := v) (by rw [eT]; exact A.1) (State.isArrayOf_alike hZ.alike A.2.1) A.2.2 hin (Has.at H hin hv) (g := mkF m pc L (.int j :: .ref a :: S)) rfl rfl hd t kt)

theorem Go.newPE {aty : ArrayType} {n : Int32} {cap cells' slots' : Nat} {ad : String} (k : Go p e below m W T pc L (.int n :: S)) (X : Stand p l e R s m args below meth c T locs cells slots) (hx : p.tables.exec = Jvm.exec) (hZ : Z.Warmed39 s.vm) (w : (Cond.arrayClass (newarray.typeOf aty)).before a0 Z = true) (eT : T.heap = h) (hd : decode c.code pc = .ok (.newarray aty, 2)) (hn : ¬ n < 0) (hcap : n.toNatClampNeg ≤ cap) (hb : cap * 8 ≤ 536870912) (h1 : cells + 1 = cells') (h2 : slots + cap = slots') (h3 : cells' ≤ R.cells) (h4 : slots' ≤ R.slots) (had : "[" ++ (newarray.typeOf aty).toString = ad) :
    ∃ T' h' b kc, Stand p l e R s m args below meth c T' locs cells' slots' ∧ T'.heap = h' ∧ b = h.size ∧ Ext h h' ∧ (∀ len, Arv Z h' b kc (newarray.typeOf aty) n (List.replicate len (defaultValue (newarray.typeOf aty))) (defaultValue (newarray.typeOf aty))) ∧ Exa Z h' b ad ∧ Go p e below m W T' (pc + 2) L (.ref b :: S) := by
  subst h1 h2
  obtain ⟨T', h', kc, X', e', E', A', Ex, st⟩ := Jvm.RoadKit.newPE X hx hZ w eT (g := mkF m pc L (.int n :: S)) rfl hd rfl hn hcap hb h3 h4 had
  exact ⟨T', h', _, kc, X', e', rfl, E', fun len => (Arv.new A' hn).pad (pad_rep [] _ len), Ex, fun t kt => k t (st t kt)⟩
theorem Go.newRE {own C : String} {index : Nat} {n : Int32} {cap cells' slots' : Nat} {ad : String} (k : Go p e below m W T pc L (.int n :: S)) (X : Stand p l e R s m args below meth c T locs cells slots) (hx : p.tables.exec = Jvm.exec) (hZ : Z.Warmed39 s.vm) (hown : s.vm.findClass own = some m.cls) (w1 : (Cond.classLink own index C).before a0 Z = true) (w2 : (Cond.arrayOver (.object C)).before a0 Z = true) (eT : T.heap = h) (hd : decode c.code pc = .ok (.anewarray index, 3)) (hn : ¬ n < 0) (hcap : n.toNatClampNeg ≤ cap) (hb : cap * 8 ≤ 536870912) (h1 : cells + 1 = cells') (h2 : slots + cap = slots') (h3 : cells' ≤ R.cells) (h4 : slots' ≤ R.slots) (had : "[" ++ (FieldType.object C).toString = ad) :
    ∃ T' h' b kc, Stand p l e R s m args below meth c T' locs cells' slots' ∧ T'.heap = h' ∧ b = h.size ∧ Ext h h' ∧ (∀ len, Arv Z h' b kc (.object C) n (List.replicate len .null) .null) ∧ Ovr Z kc C ∧ Exa Z h' b ad ∧ Go p e below m W T' (pc + 3) L (.ref b :: S) := by
  subst h1 h2
  obtain ⟨T', h', kc, X', e', E', A', Ex, O', st⟩ := Jvm.RoadKit.newRE X hx hZ hown w1 w2 eT (g := mkF m pc L (.int n :: S)) rfl hd rfl hn hcap hb h3 h4 had
  exact ⟨T', h', _, kc, X', e', rfl, E', fun len => (Arv.new A' hn).pad (pad_rep [] _ len), O', Ex, fun t kt => k t (st t kt)⟩
theorem Go.newRA {own C : String} {ty : FieldType} {index : Nat} {n : Int32} {cap cells' slots' : Nat} {ad : String} (k : Go p e below m W T pc L (.int n :: S)) (X : Stand p l e R s m args below meth c T locs cells slots) (hx : p.tables.exec = Jvm.exec) (hZ : Z.Warmed39 s.vm) (hown : s.vm.findClass own = some m.cls) (hC : (FieldType.array ty).toString = C) (w1 : (Cond.classLink own index C).before a0 Z = true) (w2 : (Cond.arrayOver (.array ty)).before a0 Z = true) (eT : T.heap = h) (hd : decode c.code pc = .ok (.anewarray index, 3)) (hn : ¬ n < 0) (hcap : n.toNatClampNeg ≤ cap) (hb : cap * 8 ≤ 536870912) (h1 : cells + 1 = cells') (h2 : slots + cap = slots') (h3 : cells' ≤ R.cells) (h4 : slots' ≤ R.slots) (had : "[" ++ C = ad) :
    ∃ T' h' b kc, Stand p l e R s m args below meth c T' locs cells' slots' ∧ T'.heap = h' ∧ b = h.size ∧ Ext h h' ∧ (∀ len, Arv Z h' b kc (.array ty) n (List.replicate len .null) .null) ∧ OvrA Z kc ty C ∧ Exa Z h' b ad ∧ Go p e below m W T' (pc + 3) L (.ref b :: S) := by
  subst h1 h2
  obtain ⟨T', h', kc, X', e', E', A', Ex, O', st⟩ := Jvm.RoadKit.newRA X hx hZ hown hC w1 w2 eT (g := mkF m pc L (.int n :: S)) rfl hd rfl hn hcap hb h3 h4 had
  exact ⟨T', h', _, kc, X', e', rfl, E', fun len => (Arv.new A' hn).pad (pad_rep [] _ len), O', Ex, fun t kt => k t (st t kt)⟩
theorem Go.aastoreA {a : Addr} {kc : ClassId} {C : String} {ty : FieldType} {z j : Int32} {vs : List Value} {d v : Value} {i : Nat} {n0 : Nat} (k : Go p e below m W T pc L (v :: .int j :: .ref a :: S)) (X : Stand p l e R s m args below meth c T locs cells slots) (hx : p.tables.exec = Jvm.exec) (hZ : Z.Warmed39 s.vm) (eT : T.heap = h) (Va : Arv Z h a kc (.array ty) z vs d) (O : OvrA Z kc ty C) (hv : v = .null ∨ ∃ y, v = .ref y ∧ Ins Z h y C true) (hz : z.toNatClampNeg = vs.length) (hj : j.toNatClampNeg = i) (hj0 : ¬ j < 0) (hi : i < vs.length) (N : Fr n0 locs) (g0 : n0 ≤ a) (hd : decode c.code pc = .ok (.aastore, 1)) :
    ∃ T' h' locs', Stand p l e R s m args below meth c T' locs' cells slots ∧ T'.heap = h' ∧ Wr h h' a j.toNatClampNeg v ∧ Arv Z h' a kc (.array ty) z (vs.set i v) d ∧ Fr n0 locs' ∧ Go p e below m W T' (pc + 1) L S := by
  obtain ⟨cl, A, q1, S1, q3, H, G⟩ := Va
  have hin := own_in S1 hz hj hj0 hi
  have F : Sto Z h a v := by
    rcases hv with rfl | ⟨y, rfl, I⟩
    · exact Or.inl rfl
    · exact Sto.ofVA A q1 O I
  have hf : fits (.array ty) v = true := by rcases hv with rfl | ⟨y, rfl, I⟩ <;> rfl
  obtain ⟨T', h', X', e', W', st⟩ := Jvm.RoadKit.stR X hx hZ eT A hin rfl F (g := mkF m pc L (v :: .int j :: .ref a :: S)) rfl rfl hd
  exact ⟨T', h', _, X', e', W', Arv.set A q1 S1 q3 H G hf W' i hj hi, Fr.snoc X' N g0, fun t kt => k t (st t kt)⟩

/-- backOfSH with addresses that are safe besides -/
theorem own_backS {EL : List (String × Nat)} {vm0 : Vm} {xs : List Addr} {y : MethodName} {bytes : ByteArray} {maxL : Nat} {ret : Option FieldType} {rm : Room} {len W : Nat} {as' : Array Value} {Q : Option Value → Heap → List Loc → Prop}
    (hM : MetFree l y (head1 [Cond.code y bytes maxL ret] rm) (fun a U => a = as' ∧ Z.Warmed39 U.vm ∧ U.heap = h ∧ CHv Z EL U.vm h ∧ ∀ x ∈ xs, Safe Z EL U.vm h x) (fun _ _ _ _ _ => True) (fun _ U o U' => ∃ v L, o = .returned v ∧ Q v U'.heap L ∧ CHr Z EL U.vm U.heap U'.vm U'.heap ∧ ReturnedEndW U o U' L rm.cells rm.slots))
    (hZ : Z.Warmed39 vm0) (wc : (Cond.code y bytes maxL ret).before a0 Z = true) (wz : (Cond.initialized y.cls).before a0 Z = true) (hf : rm.frames + 1 ≤ R.frames) (hl : W + (maxL + 11) + rm.locals ≤ R.locals) (hEL : EW Z a0 EL) (H : CHv Z EL vm0 h) (hsf : ∀ x ∈ xs, Safe Z EL vm0 h x) :
    BackS l R p e below (s.setVm vm0) args y len W (fun A a => a = as' ∧ A.U.heap = h ∧ A.cells + rm.cells ≤ R.cells ∧ A.slots + rm.slots ≤ R.slots)
      (fun A _ v B => ∃ L, Q v B.U.heap L ∧ B.locs = A.locs ++ L ∧ B.cells = A.cells + rm.cells ∧ B.slots = A.slots + rm.slots ∧ CHr Z EL vm0 h B.U.vm B.U.heap) := by
  refine BackS.of_freeW (bytes := bytes) (maxL := maxL) (ret := ret) (E := fun _ first o t L k n => k = rm.cells ∧ n = rm.slots ∧ (∃ v, o = .returned v ∧ Q v t.heap L) ∧ CHr Z EL first.vm first.heap t.vm t.heap) hM hf hl ?_ ?_ ?_ ?_ ?_
  · intro m meth c A a Y hp
    have hU : Z.Warmed39 A.U.vm := wtrans (s := s.setVm vm0) hZ Y.warmed
    exact ⟨by show (Cond.and _ .tt).before a A.U = true; rw [Cond.before_and, mv hU wc]; rfl, mv hU wc, mv hU wz, hp.2.2.1, hp.2.2.2⟩
  · intro m meth c A a g mk Y hp
    refine ⟨hp.1, wtrans (s := s.setVm vm0) hZ Y.warmed, hp.2.1, (CHv.at Y hZ hEL H).1, fun x hx B => ?_⟩
    rcases (CHv.at Y hZ hEL H).2.2 x B with q | q
    · exact hsf x hx q
    · obtain ⟨cell, hc⟩ := B.there
      exact absurd (Array.getElem?_eq_some_iff.mp hc).1 (Nat.not_lt.mpr q)
  · exact fun _ _ _ _ _ _ _ _ _ => trivial
  · exact fun _ _ _ _ ⟨v, L, h1, h2, h3, h4⟩ => ⟨L, _, _, h4, rfl, rfl, ⟨v, h1, h2⟩, h3⟩
  · intro m meth c A a g mk v t L k n Y hp _ _ hq
    obtain ⟨e1, e2, ⟨v', e3, e4⟩, e5⟩ := hq
    cases e3
    subst e1 e2
    refine ⟨L, e4, rfl, rfl, rfl, (CHv.at Y hZ hEL H).trans ?_⟩
    rw [← hp.2.1]
    exact e5
theorem Go.specS {own : String} {index : Nat} {y : MethodName} {bytes : ByteArray} {maxL : Nat} {rm : Room} {Wd cells' slots' : Nat} {b : Addr} {argsL rest : List Value} {Q : Option Value → Heap → List Loc → Prop} {as' : Array Value} {ps : List FieldType} {r : Option FieldType} {EL : List (String × Nat)} {vm0 : Vm} {k0 : Nat} {xs : List Addr}
    (k : Go p e below m W T pc L S) (X : Stand p l e R (s.setVm vm0) m args below meth c T locs cells slots) (hx : p.tables.exec = Jvm.exec) (hZ : Z.Warmed39 vm0) (hown : vm0.findClass own = some m.cls) (hsz : L.size = c.maxLocals)
    (hy1 : y.name = "<init>") (w1 : (Cond.methodLink own index y).before a0 Z = true) (w2 : (Cond.instanceMethod y).before a0 Z = true) (wc : (Cond.code y bytes maxL none).before a0 Z = true) (wz : (Cond.initialized y.cls).before a0 Z = true) (hd : decode c.code pc = .ok (.invokespecial index, 3)) (hy : y.cls ≠ "java/lang/invoke/MethodHandle" ∧ y.cls ≠ "java/lang/invoke/VarHandle")
    (hS : s.Since vm0 k0) (hk : k0 ≤ h.size) (hEL : EW Z a0 EL) (H : CHv Z EL vm0 h) (hsf : ∀ x ∈ xs, Safe Z EL vm0 h x) (hM : MetFree l y (head1 [Cond.code y bytes maxL none] rm) (fun a U => a = as' ∧ Z.Warmed39 U.vm ∧ U.heap = h ∧ CHv Z EL U.vm h ∧ ∀ x ∈ xs, Safe Z EL U.vm h x) (fun _ _ _ _ _ => True) (fun _ U o U' => ∃ v L, o = .returned v ∧ Q v U'.heap L ∧ CHr Z EL U.vm U.heap U'.vm U'.heap ∧ ReturnedEndW U o U' L rm.cells rm.slots))
    (eT : T.heap = h) (hs : S = argsL.reverse ++ .ref b :: rest) (ha : (.ref b :: argsL).toArray = as') (hp : parseMethodDescriptor y.desc = some ⟨ps, r⟩) (hlen : argsL.length = ps.length) (hW : (rest.map fun v => v.category).sum ≤ Wd) (hf : rm.frames + 1 ≤ R.frames) (hl : Wd + (maxL + 11) + rm.locals ≤ R.locals) (h1 : cells + rm.cells = cells') (h2 : slots + rm.slots = slots') (h3 : cells' ≤ R.cells) (h4 : slots' ≤ R.slots) :
    ∃ T' v L', Stand p l e R (s.setVm T'.vm) m args below meth c T' (locs ++ L') cells' slots' ∧ Q v T'.heap L' ∧ CHr Z EL vm0 h T'.vm T'.heap ∧ s.Since T'.vm T'.heap.size ∧ Z.Warmed39 T'.vm ∧ T'.vm.findClass own = some m.cls ∧ Go p e below m W T' (pc + 3) L (v.toList ++ rest) := by
  subst hs h1 h2
  obtain ⟨v, _, ⟨T', L', k', n'⟩, -, X', hSn, hgr, ⟨Lc, hQ, l1, y1, z1, hC⟩, st⟩ := X.specialBackS hx (y := y) hy1 hown (mvT hZ w1) (mvT hZ w2) (mvT hZ wc) hy (own_backS (W := Wd) (s := s) hM hZ wc wz hf hl hEL H hsf) (g := mkF m pc L (argsL.reverse ++ .ref b :: rest)) rfl hsz (Steps.refl _) (a := b) (argsL := argsL) (rest := rest) (lenOf hp hlen) rfl (by show 2 * 0 + _ ≤ _; rw [Nat.mul_zero, Nat.zero_add]; exact hW) hd (fun _ _ => ⟨ha, eT, h3, h4⟩)
  dsimp only [Pt.U, Pt.locs, Pt.cells, Pt.slots] at X' l1 y1 z1 st hQ hSn hgr hC
  subst l1 y1 z1
  have hg : h.size ≤ T'.heap.size := by rw [← eT]; exact hgr
  exact ⟨T', v, Lc, X', hQ, hC, hS.trans hSn (Nat.le_trans hk hg), State.Warmed39.trans hZ hSn.1, by rw [hSn.1.alike.findClass]; exact hown, fun t kt => k t (st.trans kt)⟩
theorem Go.virtS {own C : String} {index : Nat} {y z : MethodName} {bytes : ByteArray} {maxL : Nat} {ret : Option FieldType} {rm : Room} {Wd cells' slots' : Nat} {b : Addr} {argsL rest : List Value} {Q : Option Value → Heap → List Loc → Prop} {as' : Array Value} {ps : List FieldType} {r : Option FieldType} {EL : List (String × Nat)} {vm0 : Vm} {k0 : Nat} {xs : List Addr}
    (k : Go p e below m W T pc L S) (X : Stand p l e R (s.setVm vm0) m args below meth c T locs cells slots) (hx : p.tables.exec = Jvm.exec) (hZ : Z.Warmed39 vm0) (hown : vm0.findClass own = some m.cls) (hsz : L.size = c.maxLocals)
    (w1 : (Cond.methodLink own index y).before a0 Z = true) (w2 : (Cond.declares y).before a0 Z = true) (hnf : NotFace (s.setVm vm0) y) (w3 : (Cond.selects C y z).before a0 Z = true) (w4 : (Cond.instanceMethod z).before a0 Z = true) (wc : (Cond.code z bytes maxL ret).before a0 Z = true) (wz : (Cond.initialized z.cls).before a0 Z = true) (hd : decode c.code pc = .ok (.invokevirtual index, 3)) (hy : y.cls ≠ "java/lang/invoke/MethodHandle" ∧ y.cls ≠ "java/lang/invoke/VarHandle")
    (hS : s.Since vm0 k0) (hk : k0 ≤ h.size) (hEL : EW Z a0 EL) (H : CHv Z EL vm0 h) (hsf : ∀ x ∈ xs, Safe Z EL vm0 h x) (hM : MetFree l z (head1 [Cond.code z bytes maxL ret] rm) (fun a U => a = as' ∧ Z.Warmed39 U.vm ∧ U.heap = h ∧ CHv Z EL U.vm h ∧ ∀ x ∈ xs, Safe Z EL U.vm h x) (fun _ _ _ _ _ => True) (fun _ U o U' => ∃ v L, o = .returned v ∧ Q v U'.heap L ∧ CHr Z EL U.vm U.heap U'.vm U'.heap ∧ ReturnedEndW U o U' L rm.cells rm.slots))
    (eT : T.heap = h) (E : Exa Z h b C) (hs : S = argsL.reverse ++ .ref b :: rest) (ha : (.ref b :: argsL).toArray = as') (hp : parseMethodDescriptor y.desc = some ⟨ps, r⟩) (hlen : argsL.length = ps.length) (hW : (rest.map fun v => v.category).sum ≤ Wd) (hf : rm.frames + 1 ≤ R.frames) (hl : Wd + (maxL + 11) + rm.locals ≤ R.locals) (h1 : cells + rm.cells = cells') (h2 : slots + rm.slots = slots') (h3 : cells' ≤ R.cells) (h4 : slots' ≤ R.slots) :
    ∃ T' v L', Stand p l e R (s.setVm T'.vm) m args below meth c T' (locs ++ L') cells' slots' ∧ Q v T'.heap L' ∧ CHr Z EL vm0 h T'.vm T'.heap ∧ s.Since T'.vm T'.heap.size ∧ Z.Warmed39 T'.vm ∧ T'.vm.findClass own = some m.cls ∧ Go p e below m W T' (pc + 3) L (v.toList ++ rest) := by
  subst hs h1 h2
  obtain ⟨cq, kq, qa, qb, qc⟩ := isOf (s := s.setVm vm0) hZ eT E
  obtain ⟨v, _, ⟨T', L', k', n'⟩, -, X', hSn, hgr, ⟨Lc, hQ, l1, y1, z1, hC⟩, st⟩ := X.virtualBackS hx (y := y) (z := z) hown (mvT hZ w1) (mvT hZ w2) hnf (mvT hZ w3) (mvT hZ w4) hy (own_backS (W := Wd) (s := s) hM hZ wc wz hf hl hEL H hsf) qa qc (g := mkF m pc L (argsL.reverse ++ .ref b :: rest)) rfl hsz (Steps.refl _) (argsL := argsL) (rest := rest) (lenOf hp hlen) rfl (by show 2 * 0 + _ ≤ _; rw [Nat.mul_zero, Nat.zero_add]; exact hW) hd (fun _ _ => ⟨ha, eT, h3, h4⟩)
  dsimp only [Pt.U, Pt.locs, Pt.cells, Pt.slots] at X' l1 y1 z1 st hQ hSn hgr hC
  subst l1 y1 z1
  have hg : h.size ≤ T'.heap.size := by rw [← eT]; exact hgr
  exact ⟨T', v, Lc, X', hQ, hC, hS.trans hSn (Nat.le_trans hk hg), State.Warmed39.trans hZ hSn.1, by rw [hSn.1.alike.findClass]; exact hown, fun t kt => k t (st.trans kt)⟩
theorem Go.statS {own : String} {index : Nat} {y : MethodName} {bytes : ByteArray} {maxL : Nat} {ret : Option FieldType} {rm : Room} {Wd cells' slots' : Nat} {argsL rest : List Value} {Q : Option Value → Heap → List Loc → Prop} {as' : Array Value} {ps : List FieldType} {r : Option FieldType} {EL : List (String × Nat)} {vm0 : Vm} {k0 : Nat} {xs : List Addr}
    (k : Go p e below m W T pc L S) (X : Stand p l e R (s.setVm vm0) m args below meth c T locs cells slots) (hx : p.tables.exec = Jvm.exec) (hZ : Z.Warmed39 vm0) (hown : vm0.findClass own = some m.cls) (hsz : L.size = c.maxLocals)
    (w1 : (Cond.methodLink own index y).before a0 Z = true) (w2 : (Cond.static y).before a0 Z = true) (wc : (Cond.code y bytes maxL ret).before a0 Z = true) (wz : (Cond.initialized y.cls).before a0 Z = true) (hd : decode c.code pc = .ok (.invokestatic index, 3)) (hy : y.cls ≠ "java/lang/invoke/MethodHandle" ∧ y.cls ≠ "java/lang/invoke/VarHandle")
    (hS : s.Since vm0 k0) (hk : k0 ≤ h.size) (hEL : EW Z a0 EL) (H : CHv Z EL vm0 h) (hsf : ∀ x ∈ xs, Safe Z EL vm0 h x) (hM : MetFree l y (head1 [Cond.code y bytes maxL ret] rm) (fun a U => a = as' ∧ Z.Warmed39 U.vm ∧ U.heap = h ∧ CHv Z EL U.vm h ∧ ∀ x ∈ xs, Safe Z EL U.vm h x) (fun _ _ _ _ _ => True) (fun _ U o U' => ∃ v L, o = .returned v ∧ Q v U'.heap L ∧ CHr Z EL U.vm U.heap U'.vm U'.heap ∧ ReturnedEndW U o U' L rm.cells rm.slots))
    (eT : T.heap = h) (hs : S = argsL.reverse ++ rest) (ha : argsL.toArray = as') (hp : parseMethodDescriptor y.desc = some ⟨ps, r⟩) (hlen : argsL.length = ps.length) (hW : (rest.map fun v => v.category).sum ≤ Wd) (hf : rm.frames + 1 ≤ R.frames) (hl : Wd + (maxL + 11) + rm.locals ≤ R.locals) (h1 : cells + rm.cells = cells') (h2 : slots + rm.slots = slots') (h3 : cells' ≤ R.cells) (h4 : slots' ≤ R.slots) :
    ∃ T' v L', Stand p l e R (s.setVm T'.vm) m args below meth c T' (locs ++ L') cells' slots' ∧ Q v T'.heap L' ∧ CHr Z EL vm0 h T'.vm T'.heap ∧ s.Since T'.vm T'.heap.size ∧ Z.Warmed39 T'.vm ∧ T'.vm.findClass own = some m.cls ∧ Go p e below m W T' (pc + 3) L (v.toList ++ rest) := by
  subst hs h1 h2
  obtain ⟨v, _, ⟨T', L', k', n'⟩, -, X', hSn, hgr, ⟨Lc, hQ, l1, y1, z1, hC⟩, st⟩ := callSS X hx (y := y) hown (mvT hZ w1) (mvT hZ w2) (mvT hZ wz) (mvT hZ wc) hy (own_backS (W := Wd) (s := s) hM hZ wc wz hf hl hEL H hsf) (g := mkF m pc L (argsL.reverse ++ rest)) rfl hsz (argsL := argsL) (rest := rest) (lenOf hp hlen) rfl (by show 2 * 0 + _ ≤ _; rw [Nat.mul_zero, Nat.zero_add]; exact hW) hd (fun _ _ => ⟨ha, eT, h3, h4⟩)
  dsimp only [Pt.U, Pt.locs, Pt.cells, Pt.slots] at X' l1 y1 z1 st hQ hSn hgr hC
  subst l1 y1 z1
  have hg : h.size ≤ T'.heap.size := by rw [← eT]; exact hgr
  exact ⟨T', v, Lc, X', hQ, hC, hS.trans hSn (Nat.le_trans hk hg), State.Warmed39.trans hZ hSn.1, by rw [hSn.1.alike.findClass]; exact hown, fun t kt => k t (st.trans kt)⟩

theorem Go.ldcS {own text : String} {index : Nat} {EL : List (String × Nat)} {vm0 : Vm} {k0 : Nat} {vs : List Value} {z : Int32} {cells' slots' n : Nat}
    (k : Go p e below m W T pc L S) (X : Stand p l e R (s.setVm vm0) m args below meth c T locs cells slots) (hx : p.tables.exec = Jvm.exec) (hZ : Z.Warmed39 vm0) (hown : vm0.findClass own = some m.cls) (w : (Cond.stringLink own index text).before a0 Z = true) (wS : ∀ a ∈ Bundle.stringAtoms, a.before a0 Z = true) (eT : T.heap = h) (hS : s.Since vm0 k0) (hk : k0 ≤ h.size) (hEL : EW Z a0 EL) (hmem : (own, index) ∈ EL) (H : CHv Z EL vm0 h)
    (ht : (∀ c ∈ text.toList, c.toNat < 256) ∧ text.toList.map (fun c => Value.int (Jvm.Lit.byteI c.toNat.toUInt16)) = vs) (hz : ¬ z < 0) (hl : z.toNatClampNeg = vs.length) (hd : decode c.code pc = .ok (.ldc index, 2)) (hn : 4 * text.toList.length ≤ n) (hbig : n ≤ 536870912) (h1 : cells + 2 = cells') (h2 : slots + (n + 4) = slots') (h3 : cells' ≤ R.cells) (h4 : slots' ≤ R.slots) :
    ∃ T' h' a k1 b kb, Stand p l e R (s.setVm T'.vm) m args below meth c T' locs cells' slots' ∧ T'.heap = h' ∧ Ext h h' ∧ s.Since T'.vm k1 ∧ k1 ≤ h'.size ∧ Z.Warmed39 T'.vm ∧ T'.vm.findClass own = some m.cls ∧ Exa Z h' a "java/lang/String" ∧ Fld Z h' a "java/lang/String" "coder" "B" (.int (0 : Int32)) ∧ Fld Z h' a "java/lang/String" "value" "[B" (.ref b) ∧ Arv Z h' b kb .byte z vs (.int (0 : Int32)) ∧ CHr Z EL vm0 h T'.vm h' ∧ (∀ x, Safe Z EL T'.vm h' x → x ≠ a ∧ x ≠ b) ∧ Go p e below m W T' (pc + 2) L (.ref a :: S) := by
  subst h1 h2
  obtain ⟨a, T', h', k1, b, kb, X', e', E', s1, s2, s3, s4, f1, f2, f3, f4, -, -, hC, -, hne, st⟩ := ldcCH X hx hZ hown w wS eT hS hk hEL hmem H ht hz hl (g := mkF m pc L S) rfl hd hn hbig h3 h4
  exact ⟨T', h', a, k1, b, kb, X', e', E', s1, s2, s3, s4, f1, f2, f3, f4, hC, hne, fun t kt => k t (st t kt)⟩
abbrev DoneS (p : Program) (e : Env) (below : List Frame) (Z : State) (EL : List (String × Nat)) (s W : State) (Q : Option Value → Heap → List Loc → Prop) (rc rs : Nat) : Prop :=
  ∃ s₂ o, Steps p.tables e below W s₂ ∧ s₂.status = .running ∧ Ended s₂ below o ∧ ∃ v L, o = .returned v ∧ Q v s₂.heap L ∧ CHr Z EL s.vm s.heap s₂.vm s₂.heap ∧ ReturnedEndW s o s₂ L rc rs
theorem own_moreW {t : State} {o : Outcome} {Lc : List Loc} {k n k' n' : Nat} (q : ReturnedEndW s o t Lc k n) (h1 : k ≤ k') (h2 : n ≤ n') : ReturnedEndW s o t Lc k' n' := ⟨q.1, q.2.1, q.2.2.1, q.2.2.2.mono h1 h2⟩
theorem Go.ireturnNS {EL : List (String × Nat)} {vm0 : Vm} {k0 : Nat} {Q : Option Value → Heap → List Loc → Prop} {rc rs : Nat} {t : FieldType} {x : Int32} (k : Go p e below m W T pc L (.int x :: S)) (X : Stand p l e R (s.setVm vm0) m args below meth c T locs cells slots) (hx : p.tables.exec = Jvm.exec) (hZ : Z.Warmed39 vm0) (hEL : EW Z a0 EL) (hS : s.Since vm0 k0) (hk : k0 ≤ h.size) (eT : T.heap = h) (hC : CHr Z EL s.vm s.heap vm0 h) (hret : meth.sig.returnType = some t) (ht : t = .boolean ∨ t = .byte ∨ t = .char ∨ t = .short) (hn : nar t x = x) (hd : decode c.code pc = .ok (.ireturn, 1)) (hlk : meth.locks = false) (hq : Q (some (.int x)) T.heap locs) (h1 : cells ≤ rc) (h2 : slots ≤ rs) : DoneS p e below Z EL s W Q rc rs := by
  obtain ⟨fs, hr, hrun, hended, hW⟩ := X.leaveW hS (by rw [eT]; exact hk) (v := (some (.int x))) (fun q => by rw [hret] at q; cases q) hlk
  refine ⟨_, _, k _ ?_, hrun, hended, _, _, rfl, hq, ?_, own_moreW hW h1 h2⟩
  · exact retN X hx hret ht hd (by rw [hn]; exact hr)
  · have q := CHv.at X hZ hEL hC.1
    have q2 := hC.trans q
    rw [← eT] at q2
    exact q2
theorem Go.returnS {EL : List (String × Nat)} {vm0 : Vm} {k0 : Nat} {Q : Option Value → Heap → List Loc → Prop} {rc rs : Nat}  (k : Go p e below m W T pc L []) (X : Stand p l e R (s.setVm vm0) m args below meth c T locs cells slots) (hx : p.tables.exec = Jvm.exec) (hZ : Z.Warmed39 vm0) (hEL : EW Z a0 EL) (hS : s.Since vm0 k0) (hk : k0 ≤ h.size) (eT : T.heap = h) (hC : CHr Z EL s.vm s.heap vm0 h) (hret : meth.sig.returnType = none) (hd : decode c.code pc = .ok (.return_, 1)) (hlk : meth.locks = false) (hq : Q none T.heap locs) (h1 : cells ≤ rc) (h2 : slots ≤ rs) : DoneS p e below Z EL s W Q rc rs := by
  obtain ⟨fs, hr, hrun, hended, hW⟩ := X.leaveW hS (by rw [eT]; exact hk) (v := none) (fun _ => rfl) hlk
  refine ⟨_, _, k _ ?_, hrun, hended, _, _, rfl, hq, ?_, own_moreW hW h1 h2⟩
  · exact X.returnOut hx hret hd hr
  · have q := CHv.at X hZ hEL hC.1
    have q2 := hC.trans q
    rw [← eT] at q2
    exact q2
theorem Go.areturnS {EL : List (String × Nat)} {vm0 : Vm} {k0 : Nat} {Q : Option Value → Heap → List Loc → Prop} {rc rs : Nat} {t : FieldType} {v : Value} (k : Go p e below m W T pc L (v :: S)) (X : Stand p l e R (s.setVm vm0) m args below meth c T locs cells slots) (hx : p.tables.exec = Jvm.exec) (hZ : Z.Warmed39 vm0) (hEL : EW Z a0 EL) (hS : s.Since vm0 k0) (hk : k0 ≤ h.size) (eT : T.heap = h) (hC : CHr Z EL s.vm s.heap vm0 h) (hret : meth.sig.returnType = some t) (ht : t.isReference = true) (hv : v.isRef = true) (hd : decode c.code pc = .ok (.areturn, 1)) (hlk : meth.locks = false) (hq : Q (some v) T.heap locs) (h1 : cells ≤ rc) (h2 : slots ≤ rs) : DoneS p e below Z EL s W Q rc rs := by
  obtain ⟨fs, hr, hrun, hended, hW⟩ := X.leaveW hS (by rw [eT]; exact hk) (v := (some v)) (fun q => by rw [hret] at q; cases q) hlk
  refine ⟨_, _, k _ ?_, hrun, hended, _, _, rfl, hq, ?_, own_moreW hW h1 h2⟩
  · jvm_step X.here [X.here.top, hx, hd, X.method', hret, hv, ht]
    first | (intro acts; rw [hr _ acts rfl rfl rfl]) | rw [hr _ _ rfl rfl rfl]
    exact Steps.refl _
  · have q := CHv.at X hZ hEL hC.1
    have q2 := hC.trans q
    rw [← eT] at q2
    exact q2
end OwnKit

theorem own_eqi {args : Array Value} {first s : State} {o : Option Outcome} {idx : List Nat} {a : Term} {n : Int32} (h : (Cond.eq a (Term.int n)).value args first o s idx = some true) : a.eval args first o idx s = some (.int n) := by
  obtain ⟨x, y, h1, h2, -, -⟩ := cmp_v (Or.inl h)
  have e2 : (Term.int n).eval args first o idx s = some (.int n) := Term.int_eval n
  cases h2.symm.trans e2
  cases x <;> simp [Cond.value, h1, e2] at h
  rw [h1, h]
theorem own_eqr {args : Array Value} {first s : State} {o : Option Outcome} {idx : List Nat} {a b : Term} {y : Addr} (h : (Cond.eq a b).value args first o s idx = some true) (hb : b.eval args first o idx s = some (.ref y)) : a.eval args first o idx s = some (.ref y) := by
  obtain ⟨x, z, h1, h2, -, -⟩ := cmp_v (Or.inl h)
  cases h2.symm.trans hb
  cases x <;> simp [Cond.value, h1, hb] at h
  rw [h1, h]
theorem own_ne {Z : State} {h : Heap} {a b : Addr} {C n d : String} {v w : Value} (F : Fld Z h a C n d v) (G : Fld Z h b C n d w) (q : v ≠ w) : a ≠ b := by
  intro e
  subst e
  obtain ⟨c1, cf1, k1, i1, f1, h1, h2, -, -, -, -, h7⟩ := F
  obtain ⟨c2, cf2, k2, i2, f2, g1, g2, -, -, -, -, g7⟩ := G
  cases h1.symm.trans g1
  cases h2.symm.trans g2
  exact q (Option.some.inj (h7.symm.trans g7))
theorem own_nz {x : Int32} (h : x = 0 ∨ x = 1) : narrow .boolean (.int x) = .int x ∧ fits .boolean (.int x) = true ∧ nar .boolean x = x := by rcases h with rfl | rfl <;> exact ⟨rfl, rfl, rfl⟩
theorem own_nref {v : Value} {C : String} (h : v.isRef = true) : narrow (.object C) v = v := by cases v <;> first | rfl | simp [Value.isRef] at h
theorem own_fref {v : Value} {C : String} (h : v.isRef = true) : fits (.object C) v = true := by cases v <;> first | rfl | simp [Value.isRef] at h
theorem own_01 {x : Int32} {P : Prop} (h : (P ∧ x = (0 : Int32)) ∨ (¬ P ∧ x = (1 : Int32))) : x = 0 ∨ x = 1 := h.imp And.right And.right
theorem own_10 {x : Int32} {P : Prop} (h : (P ∧ x = (1 : Int32)) ∨ (¬ P ∧ x = (0 : Int32))) : x = 0 ∨ x = 1 := h.symm.imp And.right And.right

theorem own_mask (x : Int32) : 0 ≤ (x &&& (2147483647 : Int32)).toInt := (c_andS x 2147483647).2.2 (by decide)
theorem own_rem {x y : Int32} (hx : 0 ≤ x.toInt) (hy : 0 < y.toInt) : 0 ≤ (x % y).toInt ∧ (x % y).toInt < y.toInt := ⟨((c_iremV x y).1 hx hy).1, ((c_iremV x y).1 hx hy).2.1⟩
theorem own_i {x : Int32} {n : Int} (y : Int32) (h : x.toInt = n) (hy : y.toInt = n) : x = y := Int32.toInt_inj.mp (h.trans hy.symm)

theorem own_and255 (x : Int32) : ¬ (x &&& (255 : Int32)) < 0 ∧ ¬ (255 : Int32) < (x &&& (255 : Int32)) := by
  have h : (x &&& (255 : Int32)).toBitVec.toNat < 256 := by
    rw [Int32.toBitVec_and, BitVec.toNat_and]
    exact Nat.lt_succ_of_le Nat.and_le_right
  have e : (x &&& (255 : Int32)).toInt = ((x &&& (255 : Int32)).toBitVec.toNat : Int) := by
    show (x &&& (255 : Int32)).toBitVec.toInt = _
    rw [BitVec.toInt_eq_toNat_cond, if_pos (by omega)]
  have z0 : (0 : Int32).toInt = 0 := rfl
  have z1 : (255 : Int32).toInt = 255 := rfl
  constructor
  · intro q; have q := Int32.lt_iff_toInt_lt.mp q; omega
  · intro q; have q := Int32.lt_iff_toInt_lt.mp q; omega
theorem own_words : ∀ d ∈ StrChars.Road.words, d ∈ tables_1 := by decide +kernel
theorem own_narc (x : Int32) : nar .char (x &&& (255 : Int32)) = x &&& (255 : Int32) := by
  have h := i2c_mask x
  simpa only [nar] using h
theorem own_lat0 : ∀ c ∈ ([] : List Int32), ¬ c < 0 ∧ ¬ (255 : Int32) < c := fun _ q => nomatch q
theorem own_lat1 {x : Int32} {xs : List Int32} (h : ¬ x < 0 ∧ ¬ (255 : Int32) < x) (r : ∀ c ∈ xs, ¬ c < 0 ∧ ¬ (255 : Int32) < c) : ∀ c ∈ x :: xs, ¬ c < 0 ∧ ¬ (255 : Int32) < c := by
  intro c hc
  rcases List.mem_cons.mp hc with rfl | q
  · exact h
  · exact r c q

def own_L : List (String × Nat) := [("java/lang/String", 7), ("com/example/ikat/ikat/core/LinkEdit", 7)]
theorem own_EL0 {Z : State} {a0 : Array Value} (hw : ∀ d ∈ tables_1, d.before a0 Z = true) : EW Z a0 own_L := (EW.cons (hw _ (List.mem_of_getElem? (i := 34) rfl)) (by decide) (EW.cons (hw _ (List.mem_of_getElem? (i := 61) rfl)) (by decide) EW.nil))
theorem own_sa0 {Z : State} {a0 : Array Value} (hw : ∀ d ∈ tables_1, d.before a0 Z = true) : ∀ a ∈ Bundle.stringAtoms, a.before a0 Z = true := fun d hd => hw d ((by decide +kernel : ∀ d ∈ Bundle.stringAtoms, d ∈ tables_1) d hd)
theorem own_t0 : (∀ c ∈ ("" : String).toList, c.toNat < 256) ∧ ("" : String).toList.map (fun c => Value.int (Jvm.Lit.byteI c.toNat.toUInt16)) = [] := by decide
theorem own_t11 : (∀ c ∈ ("destination" : String).toList, c.toNat < 256) ∧ ("destination" : String).toList.map (fun c => Value.int (Jvm.Lit.byteI c.toNat.toUInt16)) = [.int (100 : Int32), .int (101 : Int32), .int (115 : Int32), .int (116 : Int32), .int (105 : Int32), .int (110 : Int32), .int (97 : Int32), .int (116 : Int32), .int (105 : Int32), .int (111 : Int32), .int (110 : Int32)] := by decide

theorem d_rms4_0 : decode jdk_42_method_149_code 0 = .ok (.aload_n 0, 1) := by decide +kernel
theorem d_rms4_1 : decode jdk_42_method_149_code 1 = .ok (.invokespecial 1, 3) := by decide +kernel
theorem d_rms4_4 : decode jdk_42_method_149_code 4 = .ok (.iload_n 3, 1) := by decide +kernel
theorem d_rms4_5 : decode jdk_42_method_149_code 5 = .ok (.ifCond .ne 22, 3) := by decide +kernel
theorem d_rms4_8 : decode jdk_42_method_149_code 8 = .ok (.aload_n 0, 1) := by decide +kernel
theorem d_rms4_9 : decode jdk_42_method_149_code 9 = .ok (.ldc 7, 2) := by decide +kernel
theorem d_rms4_11 : decode jdk_42_method_149_code 11 = .ok (.getfield 9, 3) := by decide +kernel
theorem d_rms4_14 : decode jdk_42_method_149_code 14 = .ok (.putfield 9, 3) := by decide +kernel
theorem d_rms4_17 : decode jdk_42_method_149_code 17 = .ok (.aload_n 0, 1) := by decide +kernel
theorem d_rms4_18 : decode jdk_42_method_149_code 18 = .ok (.ldc 7, 2) := by decide +kernel
theorem d_rms4_20 : decode jdk_42_method_149_code 20 = .ok (.getfield 15, 3) := by decide +kernel
theorem d_rms4_23 : decode jdk_42_method_149_code 23 = .ok (.putfield 15, 3) := by decide +kernel
theorem d_rms4_26 : decode jdk_42_method_149_code 26 = .ok (.return_, 1) := by decide +kernel
theorem pn_rms4 : plainName "java/lang/String" = true := by first | (simp [plainName, overriddenIn]; done) | decide +kernel
theorem ef_rms4 (m : MethodId) (a1 : Addr) (b1 : Addr) : entryFrame m #[(.ref a1), (.ref b1), (.int (0 : Int32)), (.int (0 : Int32)), .null] 6 = mkF m 0 #[.val (.ref a1), .val (.ref b1), .val (.int (0 : Int32)), .val (.int (0 : Int32)), .val .null, .unset] [] := by first | (simp [entryFrame, mkF, argsToLocals, Value.category]; done) | rfl
def Q_rms4 (Z : State) (a1 : Addr) (b1 : Addr) (u0 : Value) (u1 : Value) (h0 : Heap) (n0 : Nat) (v : Option Value) (h : Heap) (L : List Loc) : Prop := ∃ (ot : Addr) (ok : ClassId), v = none ∧ Fr n0 L ∧ Keep h0 h [a1] ∧ Exa Z h a1 "java/lang/String" ∧ Fld Z h a1 "java/lang/String" "value" "[B" (.ref ot) ∧ Fld Z h a1 "java/lang/String" "coder" "B" (.int (0 : Int32)) ∧ Arv Z h ot ok .byte (0 : Int32) [] (.int (0 : Int32))
set_option maxRecDepth 65536 in
set_option maxHeartbeats 40000000 in
theorem rms4 (l : Launch) (Z : State) (a0 : Array Value) (hw : ∀ d ∈ tables_1, d.before a0 Z = true) (ws : List Jvm.Cond) (a1 : Addr) (b1 : Addr) (u0 : Value) (u1 : Value) (h0 : Heap) (n0 : Nat) (Z0 : n0 ≤ h0.size) (E1 : Exa Z h0 a1 "java/lang/String") (G1 : n0 ≤ a1) (F0 : Fld Z h0 a1 "java/lang/String" "value" "[B" u0) (F1 : Fld Z h0 a1 "java/lang/String" "coder" "B" u1) :
    MetFree l (⟨"java/lang/String", "<init>", "([CIILjava/lang/Void;)V"⟩ : MethodName) (head1 (Jvm.Cond.code (⟨"java/lang/String", "<init>", "([CIILjava/lang/Void;)V"⟩ : MethodName) jdk_42_method_149_code 6 none :: ws) ({ frames := 1, cells := 4, slots := 8, locals := 12 } : Room)) (fun a U => a = #[(.ref a1), (.ref b1), (.int (0 : Int32)), (.int (0 : Int32)), .null] ∧ Z.Warmed39 U.vm ∧ U.heap = h0 ∧ CHv Z own_L U.vm h0 ∧ ∀ x ∈ [a1], Safe Z own_L U.vm h0 x) (fun _ _ _ _ _ => True) (fun _ U o U' => ∃ v L, o = .returned v ∧ Q_rms4 Z a1 b1 u0 u1 h0 n0 v U'.heap L ∧ CHr Z own_L U.vm U.heap U'.vm U'.heap ∧ ReturnedEndW U o U' L ({ frames := 1, cells := 4, slots := 8, locals := 12 } : Room).cells ({ frames := 1, cells := 4, slots := 8, locals := 12 } : Room).slots) := by
  refine MetFree.of_bodySF (plainFor_of_name pn_rms4) hisR ?_
  intro p e s m args_ below meth c s₁ Bd hml0 hP hK
  obtain ⟨hargs, hZ, hh, hcv, hsf0⟩ := hP
  have hx := Bd.exec
  have hby := Bd.bytes
  have hml : c.maxLocals = 6 := hml0
  have hown : s.vm.findClass "java/lang/String" = some m.cls := findClass_of_methodNamed Bd.named
  have hnm := (name_of_methodNamed Bd.named Bd.method).1
  have X0 : Stand p l e ({ frames := 1, cells := 4, slots := 8, locals := 12 } : Room) (s.setVm s.vm) m args_ below meth c s₁ [] 0 0 := Stand.of_body Bd
  have e0 : s₁.heap = h0 := by rw [← hh, Bd.state]; rfl
  have N0 := Fr.nil n0
  have C0 : CHr Z own_L s.vm h0 s.vm h0 := CHr.refl hcv
  have hS0 : s.Since s.vm h0.size := (State.WarmedH.refl s).since _
  have hk0 : h0.size ≤ h0.size := Nat.le_refl _
  have own_EL : EW Z a0 own_L := own_EL0 hw
  have own_sa : ∀ a ∈ Bundle.stringAtoms, a.before a0 Z = true := own_sa0 hw
  have hv : ∀ (i : Nat) {d : Jvm.Cond}, tables_1[i]? = some d → d.before a0 Z = true := fun i d q => hw d (List.mem_of_getElem? q)
  have K0 : Keep h0 h0 [a1] := Keep.refl _ _
  have k0 : Go p e below m (s₁.setTop (entryFrame m args_ 6)) s₁ 0 #[.val (.ref a1), .val (.ref b1), .val (.int (0 : Int32)), .val (.int (0 : Int32)), .val .null, .unset] [] := by rw [hargs]; exact fun t kt => castTop (ef_rms4 m a1 b1) kt
  obtain ⟨W, hWW⟩ : ∃ W, W = s₁.setTop (entryFrame m args_ 6) := ⟨_, rfl⟩
  rw [← hWW] at k0 ⊢
  show DoneS p e below Z own_L s W (Q_rms4 Z a1 b1 u0 u1 h0 n0) ({ frames := 1, cells := 4, slots := 8, locals := 12 } : Room).cells ({ frames := 1, cells := 4, slots := 8, locals := 12 } : Room).slots
  have k20 : Go p e below m W s₁ 1 #[.val (.ref a1), .val (.ref b1), .val (.int (0 : Int32)), .val (.int (0 : Int32)), .val .null, .unset] [(.ref a1)] := k0.aloadN X0 hx (hb hby d_rms4_0) rfl rfl
  obtain ⟨T21, X21, e21, k21⟩ := k20.initO (Wd := 0) X0 hx hZ hown (by rw [hml]; rfl) (hv 15 rfl) (hv 16 rfl) (hv 17 rfl) e0 (hb hby d_rms4_1) (Nat.le_of_eq rfl) (by decide) (by decide)
  have k21 : Go p e below m W T21 4 #[.val (.ref a1), .val (.ref b1), .val (.int (0 : Int32)), .val (.int (0 : Int32)), .val .null, .unset] [] := k21
  have k22 : Go p e below m W T21 9 #[.val (.ref a1), .val (.ref b1), .val (.int (0 : Int32)), .val (.int (0 : Int32)), .val .null, .unset] [(.ref a1)] := ((k21.iloadN X21 hx (hb hby d_rms4_4) rfl).ifNo X21 hx (hb hby d_rms4_5) (XT.i0_ne_f (by decide))).aloadN X21 hx (hb hby d_rms4_8) rfl rfl
  obtain ⟨T23, h23, b23, kk23, bb23, kb23, X23, e23, E23, hS23, hq23, hZ23, hown23, fe23, fc23, fv23, fa23, D23, hne23, k23⟩ := k22.ldcS (cells' := 2) (slots' := 4) (n := 0) (vs := []) (z := (0 : Int32)) X21 hx hZ hown (hv 34 rfl) own_sa e21 hS0 hk0 own_EL (by decide) C0.1 own_t0 (by decide) rfl (hb hby d_rms4_9) (by decide) (by decide) rfl rfl (by decide) (by decide)
  have k23 : Go p e below m W T23 11 #[.val (.ref a1), .val (.ref b1), .val (.int (0 : Int32)), .val (.int (0 : Int32)), .val .null, .unset] [(.ref b23), (.ref a1)] := k23
  have Z23 : n0 ≤ h23.size := Nat.le_trans Z0 E23.1
  have f24 := E1.ext E23
  have f25 := F0.ext E23
  have f26 := F1.ext E23
  have C23 := C0.trans D23
  have sf27 := D23.safe E1.lt (hsf0 _ (List.mem_of_getElem? (i := 0) rfl))
  have nl23_a1 := hne23 _ sf27
  have K23 : Keep h0 h23 [a1] := K0.ext E23
  obtain ⟨T28, X28, e28, k28⟩ := k23.getF X23 hx hZ23 hown23 (host := "") (Or.inl (hv 32 rfl)) Via.refl e23 fv23 (hb hby d_rms4_11)
  have k28 : Go p e below m W T28 14 #[.val (.ref a1), .val (.ref b1), .val (.int (0 : Int32)), .val (.int (0 : Int32)), .val .null, .unset] [(.ref bb23), (.ref a1)] := k28
  obtain ⟨T29, h29, l29, X29, e29, W29, N29, k29⟩ := k28.putF X28 hx hZ23 hown23 (host := "") (Or.inl (hv 32 rfl)) Via.refl e28 f25 f24 (Or.inr ⟨(hv 33 rfl), rfl, hnm⟩) (hv 5 rfl) (ty := (.array .byte)) (by decide) rfl rfl N0 G1 (hb hby d_rms4_14)
  have k29 : Go p e below m W T29 17 #[.val (.ref a1), .val (.ref b1), .val (.int (0 : Int32)), .val (.int (0 : Int32)), .val .null, .unset] [] := k29
  have Z29 : n0 ≤ h29.size := (Wr.size W29).symm ▸ Z23
  have DC29 := CHr.wr W29 sf27 C23.1
  have C29 := C23.trans DC29
  have sf30 := DC29.safe f24.lt sf27
  have hk29 : _ ≤ h29.size := Nat.le_trans hq23 DC29.2.1
  have f31 := f24.wr W29
  have f32 := f25.same W29
  have f33 := f26.other W29 (Or.inr (slot_ne (Or.inr (hv 31 rfl)) (Or.inr (hv 33 rfl)) (by decide) (by decide : parseFieldDescriptor "B" = some .byte) (by decide : parseFieldDescriptor "[B" = some (.array .byte))))
  have f34 := fe23.wr W29
  have f35 := fc23.other W29 (Or.inl (Ne.symm nl23_a1.1))
  have f36 := fv23.other W29 (Or.inl (Ne.symm nl23_a1.1))
  have f37 := fa23.other W29 (Ne.symm nl23_a1.2)
  have K29 : Keep h0 h29 [a1] := K23.wr W29 (Or.inl (List.mem_of_getElem? (i := 0) rfl))
  have k38 : Go p e below m W T29 18 #[.val (.ref a1), .val (.ref b1), .val (.int (0 : Int32)), .val (.int (0 : Int32)), .val .null, .unset] [(.ref a1)] := k29.aloadN X29 hx (hb hby d_rms4_17) rfl rfl
  obtain ⟨T39, h39, b39, kk39, bb39, kb39, X39, e39, E39, hS39, hq39, hZ39, hown39, fe39, fc39, fv39, fa39, D39, hne39, k39⟩ := k38.ldcS (cells' := 4) (slots' := 8) (n := 0) (vs := []) (z := (0 : Int32)) X29 hx hZ23 hown23 (hv 34 rfl) own_sa e29 hS23 hk29 own_EL (by decide) C29.1 own_t0 (by decide) rfl (hb hby d_rms4_18) (by decide) (by decide) rfl rfl (by decide) (by decide)
  have k39 : Go p e below m W T39 20 #[.val (.ref a1), .val (.ref b1), .val (.int (0 : Int32)), .val (.int (0 : Int32)), .val .null, .unset] [(.ref b39), (.ref a1)] := k39
  have Z39 : n0 ≤ h39.size := Nat.le_trans Z29 E39.1
  have f40 := f31.ext E39
  have f41 := f32.ext E39
  have f42 := f33.ext E39
  have f43 := f34.ext E39
  have f44 := f35.ext E39
  have f45 := f36.ext E39
  have f46 := f37.ext E39
  have C39 := C29.trans D39
  have sf47 := D39.safe f31.lt sf30
  have nl39_a1 := hne39 _ sf47
  have K39 : Keep h0 h39 [a1] := K29.ext E39
  obtain ⟨T48, X48, e48, k48⟩ := k39.getF X39 hx hZ39 hown39 (host := "") (Or.inl (hv 30 rfl)) Via.refl e39 fc39 (hb hby d_rms4_20)
  have k48 : Go p e below m W T48 23 #[.val (.ref a1), .val (.ref b1), .val (.int (0 : Int32)), .val (.int (0 : Int32)), .val .null, .unset] [(.int (0 : Int32)), (.ref a1)] := k48
  obtain ⟨T49, h49, l49, X49, e49, W49, N49, k49⟩ := k48.putF X48 hx hZ39 hown39 (host := "") (Or.inl (hv 30 rfl)) Via.refl e48 f42 f40 (Or.inr ⟨(hv 31 rfl), rfl, hnm⟩) (hv 5 rfl) (ty := .byte) (by decide) rfl rfl N29 G1 (hb hby d_rms4_23)
  have k49 : Go p e below m W T49 26 #[.val (.ref a1), .val (.ref b1), .val (.int (0 : Int32)), .val (.int (0 : Int32)), .val .null, .unset] [] := k49
  have Z49 : n0 ≤ h49.size := (Wr.size W49).symm ▸ Z39
  have DC49 := CHr.wr W49 sf47 C39.1
  have C49 := C39.trans DC49
  have sf50 := DC49.safe f40.lt sf47
  have hk49 : _ ≤ h49.size := Nat.le_trans hq39 DC49.2.1
  have f51 := f40.wr W49
  have f52 := f41.other W49 (Or.inr (slot_ne (Or.inr (hv 33 rfl)) (Or.inr (hv 31 rfl)) (by decide) (by decide : parseFieldDescriptor "[B" = some (.array .byte)) (by decide : parseFieldDescriptor "B" = some .byte)))
  have f53 := f42.same W49
  have f54 := f43.wr W49
  have f55 := f44.other W49 (Or.inl (Ne.symm nl23_a1.1))
  have f56 := f45.other W49 (Or.inl (Ne.symm nl23_a1.1))
  have f57 := f46.other W49 (Ne.symm nl23_a1.2)
  have f58 := fe39.wr W49
  have f59 := fc39.other W49 (Or.inl (Ne.symm nl39_a1.1))
  have f60 := fv39.other W49 (Or.inl (Ne.symm nl39_a1.1))
  have f61 := fa39.other W49 (Ne.symm nl39_a1.2)
  have K49 : Keep h0 h49 [a1] := K39.wr W49 (Or.inl (List.mem_of_getElem? (i := 0) rfl))
  exact k49.returnS X49 hx hZ39 own_EL hS39 hk49 e49 (by rw [hh]; exact C49) Bd.returns (hb hby d_rms4_26) (BodyLoose.notSynchronized Bd) (by rw [e49]; exact ⟨bb23, kb23, rfl, N49, K49, f51, f52, f53, f57⟩) (by decide) (by decide)

theorem d_rms1_0 : decode jdk_42_method_3_code 0 = .ok (.aload_n 0, 1) := by decide +kernel
theorem d_rms1_1 : decode jdk_42_method_3_code 1 = .ok (.aload_n 1, 1) := by decide +kernel
theorem d_rms1_2 : decode jdk_42_method_3_code 2 = .ok (.iconst 0, 1) := by decide +kernel
theorem d_rms1_3 : decode jdk_42_method_3_code 3 = .ok (.aload_n 1, 1) := by decide +kernel
theorem d_rms1_4 : decode jdk_42_method_3_code 4 = .ok (.arraylength, 1) := by decide +kernel
theorem d_rms1_5 : decode jdk_42_method_3_code 5 = .ok (.aconst_null, 1) := by decide +kernel
theorem d_rms1_6 : decode jdk_42_method_3_code 6 = .ok (.invokespecial 27, 3) := by decide +kernel
theorem d_rms1_9 : decode jdk_42_method_3_code 9 = .ok (.return_, 1) := by decide +kernel
theorem pn_rms1 : plainName "java/lang/String" = true := by first | (simp [plainName, overriddenIn]; done) | decide +kernel
theorem pd_rms1_0 : parseMethodDescriptor "([CIILjava/lang/Void;)V" = some ⟨[(.array .char), .int, .int, (.object "java/lang/Void")], none⟩ := by decide +kernel
theorem ef_rms1 (m : MethodId) (a1 : Addr) (b1 : Addr) : entryFrame m #[(.ref a1), (.ref b1)] 2 = mkF m 0 #[.val (.ref a1), .val (.ref b1)] [] := by first | (simp [entryFrame, mkF, argsToLocals, Value.category]; done) | rfl
def Q_rms1 (Z : State) (a1 : Addr) (b1 : Addr) (k1 : ClassId) (u0 : Value) (u1 : Value) (h0 : Heap) (n0 : Nat) (v : Option Value) (h : Heap) (L : List Loc) : Prop := ∃ (ot : Addr) (ok : ClassId), v = none ∧ Fr n0 L ∧ Keep h0 h [a1] ∧ Exa Z h a1 "java/lang/String" ∧ Fld Z h a1 "java/lang/String" "value" "[B" (.ref ot) ∧ Fld Z h a1 "java/lang/String" "coder" "B" (.int (0 : Int32)) ∧ Arv Z h ot ok .byte (0 : Int32) [] (.int (0 : Int32))
set_option maxRecDepth 65536 in
set_option maxHeartbeats 40000000 in
theorem rms1 (l : Launch) (Z : State) (a0 : Array Value) (hw : ∀ d ∈ tables_1, d.before a0 Z = true) (ws : List Jvm.Cond) (a1 : Addr) (b1 : Addr) (k1 : ClassId) (u0 : Value) (u1 : Value) (h0 : Heap) (n0 : Nat) (Z0 : n0 ≤ h0.size) (E1 : Exa Z h0 a1 "java/lang/String") (G1 : n0 ≤ a1) (F0 : Fld Z h0 a1 "java/lang/String" "value" "[B" u0) (F1 : Fld Z h0 a1 "java/lang/String" "coder" "B" u1) (V1 : Arv Z h0 b1 k1 .char (0 : Int32) [] (.int (0 : Int32))) :
    MetFree l (⟨"java/lang/String", "<init>", "([C)V"⟩ : MethodName) (head1 (Jvm.Cond.code (⟨"java/lang/String", "<init>", "([C)V"⟩ : MethodName) jdk_42_method_3_code 2 none :: ws) ({ frames := 2, cells := 4, slots := 8, locals := 29 } : Room)) (fun a U => a = #[(.ref a1), (.ref b1)] ∧ Z.Warmed39 U.vm ∧ U.heap = h0 ∧ CHv Z own_L U.vm h0 ∧ ∀ x ∈ [a1], Safe Z own_L U.vm h0 x) (fun _ _ _ _ _ => True) (fun _ U o U' => ∃ v L, o = .returned v ∧ Q_rms1 Z a1 b1 k1 u0 u1 h0 n0 v U'.heap L ∧ CHr Z own_L U.vm U.heap U'.vm U'.heap ∧ ReturnedEndW U o U' L ({ frames := 2, cells := 4, slots := 8, locals := 29 } : Room).cells ({ frames := 2, cells := 4, slots := 8, locals := 29 } : Room).slots) := by
  refine MetFree.of_bodySF (plainFor_of_name pn_rms1) hisR ?_
  intro p e s m args_ below meth c s₁ Bd hml0 hP hK
  obtain ⟨hargs, hZ, hh, hcv, hsf0⟩ := hP
  have hx := Bd.exec
  have hby := Bd.bytes
  have hml : c.maxLocals = 2 := hml0
  have hown : s.vm.findClass "java/lang/String" = some m.cls := findClass_of_methodNamed Bd.named
  have hnm := (name_of_methodNamed Bd.named Bd.method).1
  have X0 : Stand p l e ({ frames := 2, cells := 4, slots := 8, locals := 29 } : Room) (s.setVm s.vm) m args_ below meth c s₁ [] 0 0 := Stand.of_body Bd
  have e0 : s₁.heap = h0 := by rw [← hh, Bd.state]; rfl
  have N0 := Fr.nil n0
  have C0 : CHr Z own_L s.vm h0 s.vm h0 := CHr.refl hcv
  have hS0 : s.Since s.vm h0.size := (State.WarmedH.refl s).since _
  have hk0 : h0.size ≤ h0.size := Nat.le_refl _
  have own_EL : EW Z a0 own_L := own_EL0 hw
  have own_sa : ∀ a ∈ Bundle.stringAtoms, a.before a0 Z = true := own_sa0 hw
  have hv : ∀ (i : Nat) {d : Jvm.Cond}, tables_1[i]? = some d → d.before a0 Z = true := fun i d q => hw d (List.mem_of_getElem? q)
  have K0 : Keep h0 h0 [a1] := Keep.refl _ _
  have k0 : Go p e below m (s₁.setTop (entryFrame m args_ 2)) s₁ 0 #[.val (.ref a1), .val (.ref b1)] [] := by rw [hargs]; exact fun t kt => castTop (ef_rms1 m a1 b1) kt
  obtain ⟨W, hWW⟩ : ∃ W, W = s₁.setTop (entryFrame m args_ 2) := ⟨_, rfl⟩
  rw [← hWW] at k0 ⊢
  show DoneS p e below Z own_L s W (Q_rms1 Z a1 b1 k1 u0 u1 h0 n0) ({ frames := 2, cells := 4, slots := 8, locals := 29 } : Room).cells ({ frames := 2, cells := 4, slots := 8, locals := 29 } : Room).slots
  have k20 : Go p e below m W s₁ 4 #[.val (.ref a1), .val (.ref b1)] [(.ref b1), (.int (0 : Int32)), (.ref b1), (.ref a1)] := (((k0.aloadN X0 hx (hb hby d_rms1_0) rfl rfl).aloadN X0 hx (hb hby d_rms1_1) rfl rfl).iconst X0 hx (hb hby d_rms1_2) (v := (0 : Int32)) rfl).aloadN X0 hx (hb hby d_rms1_3) rfl rfl
  have k21 : Go p e below m W s₁ 6 #[.val (.ref a1), .val (.ref b1)] [.null, (.int (0 : Int32)), (.int (0 : Int32)), (.ref b1), (.ref a1)] := (k20.arraylength X0 hx hZ e0 V1 (hb hby d_rms1_4)).aconstNull X0 hx (hb hby d_rms1_5)
  obtain ⟨T22, v22, L22, X22, Q22, D22, hS22, hZ22, hown22, k22⟩ := k21.specS (y := (⟨"java/lang/String", "<init>", "([CIILjava/lang/Void;)V"⟩ : MethodName)) (b := a1) (Wd := 0) (cells' := 4) (slots' := 8) (xs := [a1]) (argsL := [(.ref b1), (.int (0 : Int32)), (.int (0 : Int32)), .null]) (rest := []) X0 hx hZ hown (by rw [hml]; rfl) rfl (hv 11 rfl) (hv 12 rfl) (hv 14 rfl) (hv 6 rfl) (hb hby d_rms1_6) (by decide) hS0 hk0 own_EL C0.1 (sfS (hsf0 _ (List.mem_of_getElem? (i := 0) rfl)) sf0) (rms4 l Z a0 hw [] a1 b1 u0 u1 h0 n0 Z0 E1 G1 F0 F1) e0 rfl rfl pd_rms1_0 rfl (Nat.le_of_eq rfl) (by decide) (by decide) rfl rfl (by decide) (by decide)
  obtain ⟨ot_22, ok_22, rfl, Nq22, Kq22, q22_0, q22_1, q22_2, q22_3⟩ := Q22
  have N22 := Fr.app N0 Nq22
  obtain ⟨h22, e22⟩ : ∃ h, T22.heap = h := ⟨_, rfl⟩
  rw [e22] at Kq22 q22_0 q22_1 q22_2 q22_3
  have Z22 : n0 ≤ h22.size := Nat.le_trans Z0 Kq22.1
  have f23 := E1.keep Kq22
  have K22 : Keep h0 h22 [a1] := K0.trans Kq22 (by intro x q; simp only [List.mem_cons, List.not_mem_nil, or_false] at q; rcases q with rfl; exact (Or.inl (List.mem_of_getElem? (i := 0) rfl)))
  have k22 : Go p e below m W T22 9 #[.val (.ref a1), .val (.ref b1)] [] := k22
  rw [e22] at D22 hS22
  have C22 := C0.trans D22
  have sf24 := D22.safe E1.lt (hsf0 _ (List.mem_of_getElem? (i := 0) rfl))
  exact k22.returnS X22 hx hZ22 own_EL hS22 (Nat.le_refl _) e22 (by rw [hh]; exact C22) Bd.returns (hb hby d_rms1_9) (BodyLoose.notSynchronized Bd) (by rw [e22]; exact ⟨ot_22, ok_22, rfl, N22, K22, q22_0, q22_1, q22_2, q22_3⟩) (by decide) (by decide)

theorem d_rmst_0 : decode method_2_code 0 = .ok (.iload_n 0, 1) := by decide +kernel
theorem d_rmst_1 : decode method_2_code 1 = .ok (.sipush 255, 3) := by decide +kernel
theorem d_rmst_4 : decode method_2_code 4 = .ok (.iand, 1) := by decide +kernel
theorem d_rmst_5 : decode method_2_code 5 = .ok (.i2c, 1) := by decide +kernel
theorem d_rmst_6 : decode method_2_code 6 = .ok (.istore_n 2, 1) := by decide +kernel
theorem d_rmst_7 : decode method_2_code 7 = .ok (.iload_n 0, 1) := by decide +kernel
theorem d_rmst_8 : decode method_2_code 8 = .ok (.bipush 8, 2) := by decide +kernel
theorem d_rmst_10 : decode method_2_code 10 = .ok (.iushr, 1) := by decide +kernel
theorem d_rmst_11 : decode method_2_code 11 = .ok (.sipush 255, 3) := by decide +kernel
theorem d_rmst_14 : decode method_2_code 14 = .ok (.iand, 1) := by decide +kernel
theorem d_rmst_15 : decode method_2_code 15 = .ok (.i2c, 1) := by decide +kernel
theorem d_rmst_16 : decode method_2_code 16 = .ok (.istore_n 3, 1) := by decide +kernel
theorem d_rmst_17 : decode method_2_code 17 = .ok (.iload_n 0, 1) := by decide +kernel
theorem d_rmst_18 : decode method_2_code 18 = .ok (.bipush 16, 2) := by decide +kernel
theorem d_rmst_20 : decode method_2_code 20 = .ok (.iushr, 1) := by decide +kernel
theorem d_rmst_21 : decode method_2_code 21 = .ok (.sipush 255, 3) := by decide +kernel
theorem d_rmst_24 : decode method_2_code 24 = .ok (.iand, 1) := by decide +kernel
theorem d_rmst_25 : decode method_2_code 25 = .ok (.i2c, 1) := by decide +kernel
theorem d_rmst_26 : decode method_2_code 26 = .ok (.istore 4, 2) := by decide +kernel
theorem d_rmst_28 : decode method_2_code 28 = .ok (.iload_n 1, 1) := by decide +kernel
theorem d_rmst_29 : decode method_2_code 29 = .ok (.ifCond .ne 14, 3) := by decide +kernel
theorem d_rmst_32 : decode method_2_code 32 = .ok (.new 7, 3) := by decide +kernel
theorem d_rmst_35 : decode method_2_code 35 = .ok (.dup, 1) := by decide +kernel
theorem d_rmst_36 : decode method_2_code 36 = .ok (.iconst 0, 1) := by decide +kernel
theorem d_rmst_37 : decode method_2_code 37 = .ok (.newarray .char, 2) := by decide +kernel
theorem d_rmst_39 : decode method_2_code 39 = .ok (.invokespecial 9, 3) := by decide +kernel
theorem d_rmst_42 : decode method_2_code 42 = .ok (.areturn, 1) := by decide +kernel
theorem d_rmst_43 : decode method_2_code 43 = .ok (.iload_n 1, 1) := by decide +kernel
theorem d_rmst_44 : decode method_2_code 44 = .ok (.iconst 1, 1) := by decide +kernel
theorem d_rmst_45 : decode method_2_code 45 = .ok (.if_icmp .ne 18, 3) := by decide +kernel
theorem d_rmst_48 : decode method_2_code 48 = .ok (.new 7, 3) := by decide +kernel
theorem d_rmst_51 : decode method_2_code 51 = .ok (.dup, 1) := by decide +kernel
theorem d_rmst_52 : decode method_2_code 52 = .ok (.iconst 1, 1) := by decide +kernel
theorem d_rmst_53 : decode method_2_code 53 = .ok (.newarray .char, 2) := by decide +kernel
theorem d_rmst_55 : decode method_2_code 55 = .ok (.dup, 1) := by decide +kernel
theorem d_rmst_56 : decode method_2_code 56 = .ok (.iconst 0, 1) := by decide +kernel
theorem d_rmst_57 : decode method_2_code 57 = .ok (.iload_n 2, 1) := by decide +kernel
theorem d_rmst_58 : decode method_2_code 58 = .ok (.castore, 1) := by decide +kernel
theorem d_rmst_59 : decode method_2_code 59 = .ok (.invokespecial 9, 3) := by decide +kernel
theorem d_rmst_62 : decode method_2_code 62 = .ok (.areturn, 1) := by decide +kernel
theorem d_rmst_63 : decode method_2_code 63 = .ok (.iload_n 1, 1) := by decide +kernel
theorem d_rmst_64 : decode method_2_code 64 = .ok (.iconst 2, 1) := by decide +kernel
theorem d_rmst_65 : decode method_2_code 65 = .ok (.if_icmp .ne 22, 3) := by decide +kernel
theorem d_rmst_68 : decode method_2_code 68 = .ok (.new 7, 3) := by decide +kernel
theorem d_rmst_71 : decode method_2_code 71 = .ok (.dup, 1) := by decide +kernel
theorem d_rmst_72 : decode method_2_code 72 = .ok (.iconst 2, 1) := by decide +kernel
theorem d_rmst_73 : decode method_2_code 73 = .ok (.newarray .char, 2) := by decide +kernel
theorem d_rmst_75 : decode method_2_code 75 = .ok (.dup, 1) := by decide +kernel
theorem d_rmst_76 : decode method_2_code 76 = .ok (.iconst 0, 1) := by decide +kernel
theorem d_rmst_77 : decode method_2_code 77 = .ok (.iload_n 2, 1) := by decide +kernel
theorem d_rmst_78 : decode method_2_code 78 = .ok (.castore, 1) := by decide +kernel
theorem d_rmst_79 : decode method_2_code 79 = .ok (.dup, 1) := by decide +kernel
theorem d_rmst_80 : decode method_2_code 80 = .ok (.iconst 1, 1) := by decide +kernel
theorem d_rmst_81 : decode method_2_code 81 = .ok (.iload_n 3, 1) := by decide +kernel
theorem d_rmst_82 : decode method_2_code 82 = .ok (.castore, 1) := by decide +kernel
theorem d_rmst_83 : decode method_2_code 83 = .ok (.invokespecial 9, 3) := by decide +kernel
theorem d_rmst_86 : decode method_2_code 86 = .ok (.areturn, 1) := by decide +kernel
theorem d_rmst_87 : decode method_2_code 87 = .ok (.new 7, 3) := by decide +kernel
theorem d_rmst_90 : decode method_2_code 90 = .ok (.dup, 1) := by decide +kernel
theorem d_rmst_91 : decode method_2_code 91 = .ok (.iconst 3, 1) := by decide +kernel
theorem d_rmst_92 : decode method_2_code 92 = .ok (.newarray .char, 2) := by decide +kernel
theorem d_rmst_94 : decode method_2_code 94 = .ok (.dup, 1) := by decide +kernel
theorem d_rmst_95 : decode method_2_code 95 = .ok (.iconst 0, 1) := by decide +kernel
theorem d_rmst_96 : decode method_2_code 96 = .ok (.iload_n 2, 1) := by decide +kernel
theorem d_rmst_97 : decode method_2_code 97 = .ok (.castore, 1) := by decide +kernel
theorem d_rmst_98 : decode method_2_code 98 = .ok (.dup, 1) := by decide +kernel
theorem d_rmst_99 : decode method_2_code 99 = .ok (.iconst 1, 1) := by decide +kernel
theorem d_rmst_100 : decode method_2_code 100 = .ok (.iload_n 3, 1) := by decide +kernel
theorem d_rmst_101 : decode method_2_code 101 = .ok (.castore, 1) := by decide +kernel
theorem d_rmst_102 : decode method_2_code 102 = .ok (.dup, 1) := by decide +kernel
theorem d_rmst_103 : decode method_2_code 103 = .ok (.iconst 2, 1) := by decide +kernel
theorem d_rmst_104 : decode method_2_code 104 = .ok (.iload 4, 2) := by decide +kernel
theorem d_rmst_106 : decode method_2_code 106 = .ok (.castore, 1) := by decide +kernel
theorem d_rmst_107 : decode method_2_code 107 = .ok (.invokespecial 9, 3) := by decide +kernel
theorem d_rmst_110 : decode method_2_code 110 = .ok (.areturn, 1) := by decide +kernel
theorem pn_rmst : plainName "com/example/ikat/ikat/core/LinkEditDestinationPinLaw" = true := by first | (simp [plainName, overriddenIn]; done) | decide +kernel
theorem pd_rmst_0 : parseMethodDescriptor "([C)V" = some ⟨[(.array .char)], none⟩ := by decide +kernel
theorem ef_rmst (m : MethodId) (p1 : Int32) (p2 : Int32) : entryFrame m #[(.int p1), (.int p2)] 5 = mkF m 0 #[.val (.int p1), .val (.int p2), .unset, .unset, .unset] [] := by first | (simp [entryFrame, mkF, argsToLocals, Value.category]; done) | rfl
def Q_rmst (Z : State) (p1 : Int32) (p2 : Int32) (cz : Int32) (h0 : Heap) (n0 : Nat) (v : Option Value) (h : Heap) (L : List Loc) : Prop := ∃ (ro : Addr), v = some (.ref ro) ∧ Fr n0 L ∧ Keep h0 h [] ∧ Exa Z h ro "java/lang/String" ∧ n0 ≤ ro ∧ h0.size ≤ ro
set_option maxRecDepth 65536 in
set_option maxHeartbeats 40000000 in
theorem rmst (l : Launch) (Z : State) (a0 : Array Value) (hw : ∀ d ∈ tables_1, d.before a0 Z = true) (ws : List Jvm.Cond) (p1 : Int32) (p2 : Int32) (cz : Int32) (h0 : Heap) (n0 : Nat) (Z0 : n0 ≤ h0.size) (O0 : Old Z n0 h0) (SCZ : Sta Z Z.heap "java/lang/String" "COMPACT_STRINGS" "Z" (.int cz)) (hcz : ¬ (cz = (0 : Int32))) :
    MetFree l (⟨"com/example/ikat/ikat/core/LinkEditDestinationPinLaw", "str", "(II)Ljava/lang/String;"⟩ : MethodName) (head1 (Jvm.Cond.code (⟨"com/example/ikat/ikat/core/LinkEditDestinationPinLaw", "str", "(II)Ljava/lang/String;"⟩ : MethodName) method_2_code 5 (some (.object "java/lang/String")) :: ws) ({ frames := 4, cells := 6, slots := 12, locals := 66 } : Room)) (fun a U => a = #[(.int p1), (.int p2)] ∧ Z.Warmed39 U.vm ∧ U.heap = h0 ∧ CHv Z own_L U.vm h0 ∧ ∀ x ∈ ([] : List Addr), Safe Z own_L U.vm h0 x) (fun _ _ _ _ _ => True) (fun _ U o U' => ∃ v L, o = .returned v ∧ Q_rmst Z p1 p2 cz h0 n0 v U'.heap L ∧ CHr Z own_L U.vm U.heap U'.vm U'.heap ∧ ReturnedEndW U o U' L ({ frames := 4, cells := 6, slots := 12, locals := 66 } : Room).cells ({ frames := 4, cells := 6, slots := 12, locals := 66 } : Room).slots) := by
  refine MetFree.of_bodySF (plainFor_of_name pn_rmst) hisR ?_
  intro p e s m args_ below meth c s₁ Bd hml0 hP hK
  obtain ⟨hargs, hZ, hh, hcv, hsf0⟩ := hP
  have hx := Bd.exec
  have hby := Bd.bytes
  have hml : c.maxLocals = 5 := hml0
  have hown : s.vm.findClass "com/example/ikat/ikat/core/LinkEditDestinationPinLaw" = some m.cls := findClass_of_methodNamed Bd.named
  have hnm := (name_of_methodNamed Bd.named Bd.method).1
  have X0 : Stand p l e ({ frames := 4, cells := 6, slots := 12, locals := 66 } : Room) (s.setVm s.vm) m args_ below meth c s₁ [] 0 0 := Stand.of_body Bd
  have e0 : s₁.heap = h0 := by rw [← hh, Bd.state]; rfl
  have N0 := Fr.nil n0
  have C0 : CHr Z own_L s.vm h0 s.vm h0 := CHr.refl hcv
  have hS0 : s.Since s.vm h0.size := (State.WarmedH.refl s).since _
  have hk0 : h0.size ≤ h0.size := Nat.le_refl _
  have own_EL : EW Z a0 own_L := own_EL0 hw
  have own_sa : ∀ a ∈ Bundle.stringAtoms, a.before a0 Z = true := own_sa0 hw
  have hv : ∀ (i : Nat) {d : Jvm.Cond}, tables_1[i]? = some d → d.before a0 Z = true := fun i d q => hw d (List.mem_of_getElem? q)
  have K0 : Keep h0 h0 [] := Keep.refl _ _
  have k0 : Go p e below m (s₁.setTop (entryFrame m args_ 5)) s₁ 0 #[.val (.int p1), .val (.int p2), .unset, .unset, .unset] [] := by rw [hargs]; exact fun t kt => castTop (ef_rmst m p1 p2) kt
  obtain ⟨W, hWW⟩ : ∃ W, W = s₁.setTop (entryFrame m args_ 5) := ⟨_, rfl⟩
  rw [← hWW] at k0 ⊢
  show DoneS p e below Z own_L s W (Q_rmst Z p1 p2 cz h0 n0) ({ frames := 4, cells := 6, slots := 12, locals := 66 } : Room).cells ({ frames := 4, cells := 6, slots := 12, locals := 66 } : Room).slots
  have k20 : Go p e below m W s₁ 7 #[.val (.int p1), .val (.int p2), .val (.int (p1 &&& (255 : Int32))), .unset, .unset] [] := (((((k0.iloadN X0 hx (hb hby d_rmst_0) rfl).sipush X0 hx (hb hby d_rmst_1) (v := (255 : Int32)) rfl).iand X0 hx (hb hby d_rmst_4)).i2c X0 hx (hb hby d_rmst_5)).cast (i2c_mask p1)).istoreN X0 hx (hb hby d_rmst_6) rfl
  have k21 : Go p e below m W s₁ 17 #[.val (.int p1), .val (.int p2), .val (.int (p1 &&& (255 : Int32))), .val (.int ((XT.ushr p1 (8 : Int32)) &&& (255 : Int32))), .unset] [] := (((((((k20.iloadN X0 hx (hb hby d_rmst_7) rfl).bipush X0 hx (hb hby d_rmst_8) (v := (8 : Int32)) rfl).iushr X0 hx (hb hby d_rmst_10)).sipush X0 hx (hb hby d_rmst_11) (v := (255 : Int32)) rfl).iand X0 hx (hb hby d_rmst_14)).i2c X0 hx (hb hby d_rmst_15)).cast (i2c_mask (XT.ushr p1 (8 : Int32)))).istoreN X0 hx (hb hby d_rmst_16) rfl
  have k22 : Go p e below m W s₁ 28 #[.val (.int p1), .val (.int p2), .val (.int (p1 &&& (255 : Int32))), .val (.int ((XT.ushr p1 (8 : Int32)) &&& (255 : Int32))), .val (.int ((XT.ushr p1 (16 : Int32)) &&& (255 : Int32)))] [] := (((((((k21.iloadN X0 hx (hb hby d_rmst_17) rfl).bipush X0 hx (hb hby d_rmst_18) (v := (16 : Int32)) rfl).iushr X0 hx (hb hby d_rmst_20)).sipush X0 hx (hb hby d_rmst_21) (v := (255 : Int32)) rfl).iand X0 hx (hb hby d_rmst_24)).i2c X0 hx (hb hby d_rmst_25)).cast (i2c_mask (XT.ushr p1 (16 : Int32)))).istore X0 hx (hb hby d_rmst_26) rfl
  have k23 : Go p e below m W s₁ 29 #[.val (.int p1), .val (.int p2), .val (.int (p1 &&& (255 : Int32))), .val (.int ((XT.ushr p1 (8 : Int32)) &&& (255 : Int32))), .val (.int ((XT.ushr p1 (16 : Int32)) &&& (255 : Int32)))] [(.int p2)] := k22.iloadN X0 hx (hb hby d_rmst_28) rfl
  by_cases hc29_24 : p2 = (0 : Int32)
  ·
    have k25 : Go p e below m W s₁ 32 #[.val (.int p1), .val (.int p2), .val (.int (p1 &&& (255 : Int32))), .val (.int ((XT.ushr p1 (8 : Int32)) &&& (255 : Int32))), .val (.int ((XT.ushr p1 (16 : Int32)) &&& (255 : Int32)))] [] := k23.ifNo X0 hx (hb hby d_rmst_29) (XT.i0_ne_f hc29_24)
    obtain ⟨T26, h26, b26, X26, e26, g26, E26, A26, D26, k26⟩ := k25.newO (cells' := 1) (slots' := 4) X0 hx hZ hown (hv 4 rfl) (hv 5 rfl) (hv 6 rfl) e0 (hb hby d_rmst_32) rfl rfl (by decide) (by decide)
    have k26 : Go p e below m W T26 35 #[.val (.int p1), .val (.int p2), .val (.int (p1 &&& (255 : Int32))), .val (.int ((XT.ushr p1 (8 : Int32)) &&& (255 : Int32))), .val (.int ((XT.ushr p1 (16 : Int32)) &&& (255 : Int32)))] [(.ref b26)] := k26
    have Z26 : n0 ≤ h26.size := Nat.le_trans Z0 E26.1
    have f27 := O0.ext E26
    have G26 : n0 ≤ b26 := g26 ▸ Z0
    have H26 : h0.size ≤ b26 := g26 ▸ K0.1
    have K26 : Keep h0 h26 [] := K0.ext E26
    have DC26 := CHr.ext E26 C0.1
    have C26 := C0.trans DC26
    have hk26 : _ ≤ h26.size := Nat.le_trans hk0 DC26.2.1
    have sf28 := Safe.ext E26 C0.1 (Safe.new (x := b26) (Nat.le_of_eq g26.symm))
    have f29 : Fld Z h26 b26 "java/lang/String" "coder" "B" (.int (0 : Int32)) := D26 (Or.inr (hv 31 rfl)) (ty := .byte) (by decide)
    have f30 : Fld Z h26 b26 "java/lang/String" "value" "[B" .null := D26 (Or.inr (hv 33 rfl)) (ty := (.array .byte)) (by decide)
    have k31 : Go p e below m W T26 37 #[.val (.int p1), .val (.int p2), .val (.int (p1 &&& (255 : Int32))), .val (.int ((XT.ushr p1 (8 : Int32)) &&& (255 : Int32))), .val (.int ((XT.ushr p1 (16 : Int32)) &&& (255 : Int32)))] [(.int (0 : Int32)), (.ref b26), (.ref b26)] := (k26.dup X26 hx (hb hby d_rmst_35) rfl).iconst X26 hx (hb hby d_rmst_36) (v := (0 : Int32)) rfl
    obtain ⟨T32, h32, b32, c32, X32, e32, g32, E32, A32, k32⟩ := k31.newP (cap := 0) (cells' := 2) (slots' := 4) X26 hx hZ (hv 7 rfl) e26 (hb hby d_rmst_37) (by decide) (by decide) (by decide) rfl rfl (by decide) (by decide)
    have k32 : Go p e below m W T32 39 #[.val (.int p1), .val (.int p2), .val (.int (p1 &&& (255 : Int32))), .val (.int ((XT.ushr p1 (8 : Int32)) &&& (255 : Int32))), .val (.int ((XT.ushr p1 (16 : Int32)) &&& (255 : Int32)))] [(.ref b32), (.ref b26), (.ref b26)] := k32
    have Z32 : n0 ≤ h32.size := Nat.le_trans Z26 E32.1
    have ne32_b26 : b26 ≠ b32 := Nat.ne_of_lt (g32 ▸ A26.lt)
    have f33 := f27.ext E32
    have f34 := A26.ext E32
    have f35 := f29.ext E32
    have f36 := f30.ext E32
    have G32 : n0 ≤ b32 := g32 ▸ Z26
    have H32 : h0.size ≤ b32 := g32 ▸ K26.1
    have K32 : Keep h0 h32 [] := K26.ext E32
    have DC32 := CHr.ext E32 C26.1
    have C32 := C26.trans DC32
    have sf37 := DC32.safe A26.lt sf28
    have hk32 : _ ≤ h32.size := Nat.le_trans hk26 DC32.2.1
    have sf38 := Safe.ext E32 C26.1 (Safe.new (x := b32) (Nat.le_of_eq g32.symm))
    have V32 : Arv Z h32 b32 c32 .char (0 : Int32) [] (.int (0 : Int32)) := A32 0
    obtain ⟨T39, v39, L39, X39, Q39, D39, hS39, hZ39, hown39, k39⟩ := k32.specS (y := (⟨"java/lang/String", "<init>", "([C)V"⟩ : MethodName)) (b := b26) (Wd := 1) (cells' := 6) (slots' := 12) (xs := [b26]) (argsL := [(.ref b32)]) (rest := [(.ref b26)]) X32 hx hZ hown (by rw [hml]; rfl) rfl (hv 8 rfl) (hv 9 rfl) (hv 10 rfl) (hv 6 rfl) (hb hby d_rmst_39) (by decide) hS0 hk32 own_EL C32.1 (sfS sf37 sf0) (rms1 l Z a0 hw [] b26 b32 c32 .null (.int (0 : Int32)) h32 n0 Z32 f34 G26 f36 f35 V32) e32 rfl rfl pd_rmst_0 rfl (Nat.le_of_eq rfl) (by decide) (by decide) rfl rfl (by decide) (by decide)
    obtain ⟨ot_39, ok_39, rfl, Nq39, Kq39, q39_0, q39_1, q39_2, q39_3⟩ := Q39
    have N39 := Fr.app N0 Nq39
    obtain ⟨h39, e39⟩ : ∃ h, T39.heap = h := ⟨_, rfl⟩
    rw [e39] at Kq39 q39_0 q39_1 q39_2 q39_3
    have Z39 : n0 ≤ h39.size := Nat.le_trans Z32 Kq39.1
    have f40 := f33.keep Kq39 (by intro x q; simp only [List.mem_cons, List.not_mem_nil, or_false] at q; rcases q with rfl; exact G26)
    have f41 := f34.keep Kq39
    have f42 := V32.keep Kq39 (by simp only [List.mem_cons, List.not_mem_nil, or_false, not_or]; exact (Ne.symm ne32_b26))
    have K39 : Keep h0 h39 [] := K32.trans Kq39 (by intro x q; simp only [List.mem_cons, List.not_mem_nil, or_false] at q; rcases q with rfl; exact (Or.inr H26))
    have k39 : Go p e below m W T39 42 #[.val (.int p1), .val (.int p2), .val (.int (p1 &&& (255 : Int32))), .val (.int ((XT.ushr p1 (8 : Int32)) &&& (255 : Int32))), .val (.int ((XT.ushr p1 (16 : Int32)) &&& (255 : Int32)))] [(.ref b26)] := k39
    rw [e39] at D39 hS39
    have C39 := C32.trans D39
    have sf43 := D39.safe f34.lt sf37
    have sf44 := D39.safe V32.lt sf38
    exact k39.areturnS X39 hx hZ39 own_EL hS39 (Nat.le_refl _) e39 (by rw [hh]; exact C39) Bd.returns rfl rfl (hb hby d_rmst_42) (BodyLoose.notSynchronized Bd) (by rw [e39]; exact ⟨b26, rfl, N39, K39, q39_0, G26, H26⟩) (by decide) (by decide)
  ·
    have k45 : Go p e below m W s₁ 45 #[.val (.int p1), .val (.int p2), .val (.int (p1 &&& (255 : Int32))), .val (.int ((XT.ushr p1 (8 : Int32)) &&& (255 : Int32))), .val (.int ((XT.ushr p1 (16 : Int32)) &&& (255 : Int32)))] [(.int (1 : Int32)), (.int p2)] := ((k23.ifYes X0 hx (hb hby d_rmst_29) (XT.i0_ne_t hc29_24) (by decide) (by decide)).iloadN X0 hx (hb hby d_rmst_43) rfl).iconst X0 hx (hb hby d_rmst_44) (v := (1 : Int32)) rfl
    by_cases hc45_46 : p2 = (1 : Int32)
    ·
      have k47 : Go p e below m W s₁ 48 #[.val (.int p1), .val (.int p2), .val (.int (p1 &&& (255 : Int32))), .val (.int ((XT.ushr p1 (8 : Int32)) &&& (255 : Int32))), .val (.int ((XT.ushr p1 (16 : Int32)) &&& (255 : Int32)))] [] := k45.icmpNo X0 hx (hb hby d_rmst_45) (XT.ii_ne_f hc45_46)
      obtain ⟨T48, h48, b48, X48, e48, g48, E48, A48, D48, k48⟩ := k47.newO (cells' := 1) (slots' := 4) X0 hx hZ hown (hv 4 rfl) (hv 5 rfl) (hv 6 rfl) e0 (hb hby d_rmst_48) rfl rfl (by decide) (by decide)
      have k48 : Go p e below m W T48 51 #[.val (.int p1), .val (.int p2), .val (.int (p1 &&& (255 : Int32))), .val (.int ((XT.ushr p1 (8 : Int32)) &&& (255 : Int32))), .val (.int ((XT.ushr p1 (16 : Int32)) &&& (255 : Int32)))] [(.ref b48)] := k48
      have Z48 : n0 ≤ h48.size := Nat.le_trans Z0 E48.1
      have f49 := O0.ext E48
      have G48 : n0 ≤ b48 := g48 ▸ Z0
      have H48 : h0.size ≤ b48 := g48 ▸ K0.1
      have K48 : Keep h0 h48 [] := K0.ext E48
      have DC48 := CHr.ext E48 C0.1
      have C48 := C0.trans DC48
      have hk48 : _ ≤ h48.size := Nat.le_trans hk0 DC48.2.1
      have sf50 := Safe.ext E48 C0.1 (Safe.new (x := b48) (Nat.le_of_eq g48.symm))
      have f51 : Fld Z h48 b48 "java/lang/String" "coder" "B" (.int (0 : Int32)) := D48 (Or.inr (hv 31 rfl)) (ty := .byte) (by decide)
      have f52 : Fld Z h48 b48 "java/lang/String" "value" "[B" .null := D48 (Or.inr (hv 33 rfl)) (ty := (.array .byte)) (by decide)
      have k53 : Go p e below m W T48 53 #[.val (.int p1), .val (.int p2), .val (.int (p1 &&& (255 : Int32))), .val (.int ((XT.ushr p1 (8 : Int32)) &&& (255 : Int32))), .val (.int ((XT.ushr p1 (16 : Int32)) &&& (255 : Int32)))] [(.int (1 : Int32)), (.ref b48), (.ref b48)] := (k48.dup X48 hx (hb hby d_rmst_51) rfl).iconst X48 hx (hb hby d_rmst_52) (v := (1 : Int32)) rfl
      obtain ⟨T54, h54, b54, c54, X54, e54, g54, E54, A54, k54⟩ := k53.newP (cap := 1) (cells' := 2) (slots' := 5) X48 hx hZ (hv 7 rfl) e48 (hb hby d_rmst_53) (by decide) (by decide) (by decide) rfl rfl (by decide) (by decide)
      have k54 : Go p e below m W T54 55 #[.val (.int p1), .val (.int p2), .val (.int (p1 &&& (255 : Int32))), .val (.int ((XT.ushr p1 (8 : Int32)) &&& (255 : Int32))), .val (.int ((XT.ushr p1 (16 : Int32)) &&& (255 : Int32)))] [(.ref b54), (.ref b48), (.ref b48)] := k54
      have Z54 : n0 ≤ h54.size := Nat.le_trans Z48 E54.1
      have ne54_b48 : b48 ≠ b54 := Nat.ne_of_lt (g54 ▸ A48.lt)
      have f55 := f49.ext E54
      have f56 := A48.ext E54
      have f57 := f51.ext E54
      have f58 := f52.ext E54
      have G54 : n0 ≤ b54 := g54 ▸ Z48
      have H54 : h0.size ≤ b54 := g54 ▸ K48.1
      have K54 : Keep h0 h54 [] := K48.ext E54
      have DC54 := CHr.ext E54 C48.1
      have C54 := C48.trans DC54
      have sf59 := DC54.safe A48.lt sf50
      have hk54 : _ ≤ h54.size := Nat.le_trans hk48 DC54.2.1
      have sf60 := Safe.ext E54 C48.1 (Safe.new (x := b54) (Nat.le_of_eq g54.symm))
      have V54 : Arv Z h54 b54 c54 .char (1 : Int32) [(.int (0 : Int32))] (.int (0 : Int32)) := A54 1
      have k61 : Go p e below m W T54 58 #[.val (.int p1), .val (.int p2), .val (.int (p1 &&& (255 : Int32))), .val (.int ((XT.ushr p1 (8 : Int32)) &&& (255 : Int32))), .val (.int ((XT.ushr p1 (16 : Int32)) &&& (255 : Int32)))] [(.int (p1 &&& (255 : Int32))), (.int (0 : Int32)), (.ref b54), (.ref b54), (.ref b48), (.ref b48)] := ((k54.dup X54 hx (hb hby d_rmst_55) rfl).iconst X54 hx (hb hby d_rmst_56) (v := (0 : Int32)) rfl).iloadN X54 hx (hb hby d_rmst_57) rfl
      obtain ⟨T62, h62, l62, X62, e62, W62, V62, N62, k62⟩ := k61.castore (i := 0) X54 hx hZ e54 V54 rfl rfl (by decide) (Nat.le_of_ble_eq_true rfl) N0 G54 (hb hby d_rmst_58)
      have k62 : Go p e below m W T62 59 #[.val (.int p1), .val (.int p2), .val (.int (p1 &&& (255 : Int32))), .val (.int ((XT.ushr p1 (8 : Int32)) &&& (255 : Int32))), .val (.int ((XT.ushr p1 (16 : Int32)) &&& (255 : Int32)))] [(.ref b54), (.ref b48), (.ref b48)] := k62
      have Z62 : n0 ≤ h62.size := (Wr.size W62).symm ▸ Z54
      have DC62 := CHr.wr W62 sf60 C54.1
      have C62 := C54.trans DC62
      have sf63 := DC62.safe f56.lt sf59
      have sf64 := DC62.safe V54.lt sf60
      have hk62 : _ ≤ h62.size := Nat.le_trans hk54 DC62.2.1
      have f65 := f55.wr W62 G54
      have f66 := f56.wr W62
      have f67 := f57.other W62 (Or.inl ne54_b48)
      have f68 := f58.other W62 (Or.inl ne54_b48)
      rw [own_narc p1] at V62
      have V62 : Arv Z h62 b54 c54 .char (1 : Int32) [(.int (p1 &&& (255 : Int32)))] (.int (0 : Int32)) := V62
      have K62 : Keep h0 h62 [] := K54.wr W62 (Or.inr H54)
      obtain ⟨T69, v69, L69, X69, Qr69, k69⟩ := k62.specB (y := (⟨"java/lang/String", "<init>", "([C)V"⟩ : MethodName)) (b := b48) (Wd := 1) (rc := 1) (rs := 1) (cells' := 3) (slots' := 6) (argsL := [(.ref b54)]) (rest := [(.ref b48)]) X62 hx hZ hown (by rw [hml]; rfl) rfl (hv 8 rfl) (hv 9 rfl) (hv 10 rfl) (hb hby d_rmst_59) (by decide) (StrChars.Road.backV (W := 1) hZ (fun d hd => hw d (own_words d hd)) (kI := 4) (hv 5 rfl) (cs := [(p1 &&& (255 : Int32))]) (bs := [((p1 &&& (255 : Int32))).toInt8.toInt32]) (n := 1) G48 Z62 f66 f68 f67 V62 (SCZ.ext f65.2) hcz rfl rfl (by decide) (by decide) (own_lat1 (own_and255 p1) own_lat0) rfl (by decide) (by decide)) e62 rfl rfl pd_rmst_0 rfl (Nat.le_of_eq rfl) rfl rfl (by decide) (by decide)
      obtain ⟨qa69, qb69, qc69, qd69, qe69, t69, kb69, qf69, qg69, qh69, qi69, qj69⟩ := Qr69
      have Q69 : ∃ (ot : Addr) (okb : ClassId), v69 = none ∧ Fr n0 L69 ∧ Keep h62 T69.heap [b48] ∧ Exa Z T69.heap b48 "java/lang/String" ∧ Fld Z T69.heap b48 "java/lang/String" "coder" "B" (.int (0 : Int32)) ∧ n0 ≤ ot ∧ h62.size ≤ ot ∧ ot ≠ b48 ∧ Fld Z T69.heap b48 "java/lang/String" "value" "[B" (.ref ot) ∧ Arv Z T69.heap ot okb .byte (1 : Int32) [(.int ((p1 &&& (255 : Int32))).toInt8.toInt32)] (.int (0 : Int32)) := ⟨t69, kb69, qa69, qb69, qc69, qd69, qe69, qf69, qg69, qh69, qi69, qj69⟩
      obtain ⟨ot_69, okb_69, rfl, Nq69, Kq69, q69_0, q69_1, q69_2, q69_3, q69_4, q69_5, q69_6⟩ := Q69
      have N69 := Fr.app N62 Nq69
      obtain ⟨h69, e69⟩ : ∃ h, T69.heap = h := ⟨_, rfl⟩
      rw [e69] at Kq69 q69_0 q69_1 q69_5 q69_6
      have Z69 : n0 ≤ h69.size := Nat.le_trans Z62 Kq69.1
      have DC69 := CHr.keep Kq69 (sfS sf63 sf0) C62.1
      have C69 := C62.trans DC69
      have sf71 := DC69.safe f66.lt sf63
      have sf72 := DC69.safe V62.lt sf64
      have hk69 : _ ≤ h69.size := Nat.le_trans hk62 DC69.2.1
      have f73 := f65.keep Kq69 (by intro x q; simp only [List.mem_cons, List.not_mem_nil, or_false] at q; rcases q with rfl; exact G48)
      have f74 := f66.keep Kq69
      have f75 := V62.keep Kq69 (by simp only [List.mem_cons, List.not_mem_nil, or_false, not_or]; exact (Ne.symm ne54_b48))
      have K69 : Keep h0 h69 [] := K62.trans Kq69 (by intro x q; simp only [List.mem_cons, List.not_mem_nil, or_false] at q; rcases q with rfl; exact (Or.inr H48))
      have ne76_b48 : b48 ≠ ot_69 := Nat.ne_of_lt (Nat.lt_of_lt_of_le f66.lt q69_3)
      have ne77_b54 : b54 ≠ ot_69 := Nat.ne_of_lt (Nat.lt_of_lt_of_le V62.lt q69_3)
      have H78 : h0.size ≤ ot_69 := Nat.le_trans K62.1 q69_3
      have k69 : Go p e below m W T69 62 #[.val (.int p1), .val (.int p2), .val (.int (p1 &&& (255 : Int32))), .val (.int ((XT.ushr p1 (8 : Int32)) &&& (255 : Int32))), .val (.int ((XT.ushr p1 (16 : Int32)) &&& (255 : Int32)))] [(.ref b48)] := k69
      exact k69.areturnS X69 hx hZ own_EL hS0 hk69 e69 (by rw [hh]; exact C69) Bd.returns rfl rfl (hb hby d_rmst_62) (BodyLoose.notSynchronized Bd) (by rw [e69]; exact ⟨b48, rfl, N69, K69, q69_0, G48, H48⟩) (by decide) (by decide)
    ·
      have k79 : Go p e below m W s₁ 65 #[.val (.int p1), .val (.int p2), .val (.int (p1 &&& (255 : Int32))), .val (.int ((XT.ushr p1 (8 : Int32)) &&& (255 : Int32))), .val (.int ((XT.ushr p1 (16 : Int32)) &&& (255 : Int32)))] [(.int (2 : Int32)), (.int p2)] := ((k45.icmpYes X0 hx (hb hby d_rmst_45) (XT.ii_ne_t hc45_46) (by decide) (by decide)).iloadN X0 hx (hb hby d_rmst_63) rfl).iconst X0 hx (hb hby d_rmst_64) (v := (2 : Int32)) rfl
      by_cases hc65_80 : p2 = (2 : Int32)
      ·
        have k81 : Go p e below m W s₁ 68 #[.val (.int p1), .val (.int p2), .val (.int (p1 &&& (255 : Int32))), .val (.int ((XT.ushr p1 (8 : Int32)) &&& (255 : Int32))), .val (.int ((XT.ushr p1 (16 : Int32)) &&& (255 : Int32)))] [] := k79.icmpNo X0 hx (hb hby d_rmst_65) (XT.ii_ne_f hc65_80)
        obtain ⟨T82, h82, b82, X82, e82, g82, E82, A82, D82, k82⟩ := k81.newO (cells' := 1) (slots' := 4) X0 hx hZ hown (hv 4 rfl) (hv 5 rfl) (hv 6 rfl) e0 (hb hby d_rmst_68) rfl rfl (by decide) (by decide)
        have k82 : Go p e below m W T82 71 #[.val (.int p1), .val (.int p2), .val (.int (p1 &&& (255 : Int32))), .val (.int ((XT.ushr p1 (8 : Int32)) &&& (255 : Int32))), .val (.int ((XT.ushr p1 (16 : Int32)) &&& (255 : Int32)))] [(.ref b82)] := k82
        have Z82 : n0 ≤ h82.size := Nat.le_trans Z0 E82.1
        have f83 := O0.ext E82
        have G82 : n0 ≤ b82 := g82 ▸ Z0
        have H82 : h0.size ≤ b82 := g82 ▸ K0.1
        have K82 : Keep h0 h82 [] := K0.ext E82
        have DC82 := CHr.ext E82 C0.1
        have C82 := C0.trans DC82
        have hk82 : _ ≤ h82.size := Nat.le_trans hk0 DC82.2.1
        have sf84 := Safe.ext E82 C0.1 (Safe.new (x := b82) (Nat.le_of_eq g82.symm))
        have f85 : Fld Z h82 b82 "java/lang/String" "coder" "B" (.int (0 : Int32)) := D82 (Or.inr (hv 31 rfl)) (ty := .byte) (by decide)
        have f86 : Fld Z h82 b82 "java/lang/String" "value" "[B" .null := D82 (Or.inr (hv 33 rfl)) (ty := (.array .byte)) (by decide)
        have k87 : Go p e below m W T82 73 #[.val (.int p1), .val (.int p2), .val (.int (p1 &&& (255 : Int32))), .val (.int ((XT.ushr p1 (8 : Int32)) &&& (255 : Int32))), .val (.int ((XT.ushr p1 (16 : Int32)) &&& (255 : Int32)))] [(.int (2 : Int32)), (.ref b82), (.ref b82)] := (k82.dup X82 hx (hb hby d_rmst_71) rfl).iconst X82 hx (hb hby d_rmst_72) (v := (2 : Int32)) rfl
        obtain ⟨T88, h88, b88, c88, X88, e88, g88, E88, A88, k88⟩ := k87.newP (cap := 2) (cells' := 2) (slots' := 6) X82 hx hZ (hv 7 rfl) e82 (hb hby d_rmst_73) (by decide) (by decide) (by decide) rfl rfl (by decide) (by decide)
        have k88 : Go p e below m W T88 75 #[.val (.int p1), .val (.int p2), .val (.int (p1 &&& (255 : Int32))), .val (.int ((XT.ushr p1 (8 : Int32)) &&& (255 : Int32))), .val (.int ((XT.ushr p1 (16 : Int32)) &&& (255 : Int32)))] [(.ref b88), (.ref b82), (.ref b82)] := k88
        have Z88 : n0 ≤ h88.size := Nat.le_trans Z82 E88.1
        have ne88_b82 : b82 ≠ b88 := Nat.ne_of_lt (g88 ▸ A82.lt)
        have f89 := f83.ext E88
        have f90 := A82.ext E88
        have f91 := f85.ext E88
        have f92 := f86.ext E88
        have G88 : n0 ≤ b88 := g88 ▸ Z82
        have H88 : h0.size ≤ b88 := g88 ▸ K82.1
        have K88 : Keep h0 h88 [] := K82.ext E88
        have DC88 := CHr.ext E88 C82.1
        have C88 := C82.trans DC88
        have sf93 := DC88.safe A82.lt sf84
        have hk88 : _ ≤ h88.size := Nat.le_trans hk82 DC88.2.1
        have sf94 := Safe.ext E88 C82.1 (Safe.new (x := b88) (Nat.le_of_eq g88.symm))
        have V88 : Arv Z h88 b88 c88 .char (2 : Int32) [(.int (0 : Int32)), (.int (0 : Int32))] (.int (0 : Int32)) := A88 2
        have k95 : Go p e below m W T88 78 #[.val (.int p1), .val (.int p2), .val (.int (p1 &&& (255 : Int32))), .val (.int ((XT.ushr p1 (8 : Int32)) &&& (255 : Int32))), .val (.int ((XT.ushr p1 (16 : Int32)) &&& (255 : Int32)))] [(.int (p1 &&& (255 : Int32))), (.int (0 : Int32)), (.ref b88), (.ref b88), (.ref b82), (.ref b82)] := ((k88.dup X88 hx (hb hby d_rmst_75) rfl).iconst X88 hx (hb hby d_rmst_76) (v := (0 : Int32)) rfl).iloadN X88 hx (hb hby d_rmst_77) rfl
        obtain ⟨T96, h96, l96, X96, e96, W96, V96, N96, k96⟩ := k95.castore (i := 0) X88 hx hZ e88 V88 rfl rfl (by decide) (Nat.le_of_ble_eq_true rfl) N0 G88 (hb hby d_rmst_78)
        have k96 : Go p e below m W T96 79 #[.val (.int p1), .val (.int p2), .val (.int (p1 &&& (255 : Int32))), .val (.int ((XT.ushr p1 (8 : Int32)) &&& (255 : Int32))), .val (.int ((XT.ushr p1 (16 : Int32)) &&& (255 : Int32)))] [(.ref b88), (.ref b82), (.ref b82)] := k96
        have Z96 : n0 ≤ h96.size := (Wr.size W96).symm ▸ Z88
        have DC96 := CHr.wr W96 sf94 C88.1
        have C96 := C88.trans DC96
        have sf97 := DC96.safe f90.lt sf93
        have sf98 := DC96.safe V88.lt sf94
        have hk96 : _ ≤ h96.size := Nat.le_trans hk88 DC96.2.1
        have f99 := f89.wr W96 G88
        have f100 := f90.wr W96
        have f101 := f91.other W96 (Or.inl ne88_b82)
        have f102 := f92.other W96 (Or.inl ne88_b82)
        rw [own_narc p1] at V96
        have V96 : Arv Z h96 b88 c88 .char (2 : Int32) [(.int (p1 &&& (255 : Int32))), (.int (0 : Int32))] (.int (0 : Int32)) := V96
        have K96 : Keep h0 h96 [] := K88.wr W96 (Or.inr H88)
        have k103 : Go p e below m W T96 82 #[.val (.int p1), .val (.int p2), .val (.int (p1 &&& (255 : Int32))), .val (.int ((XT.ushr p1 (8 : Int32)) &&& (255 : Int32))), .val (.int ((XT.ushr p1 (16 : Int32)) &&& (255 : Int32)))] [(.int ((XT.ushr p1 (8 : Int32)) &&& (255 : Int32))), (.int (1 : Int32)), (.ref b88), (.ref b88), (.ref b82), (.ref b82)] := ((k96.dup X96 hx (hb hby d_rmst_79) rfl).iconst X96 hx (hb hby d_rmst_80) (v := (1 : Int32)) rfl).iloadN X96 hx (hb hby d_rmst_81) rfl
        obtain ⟨T104, h104, l104, X104, e104, W104, V104, N104, k104⟩ := k103.castore (i := 1) X96 hx hZ e96 V96 rfl rfl (by decide) (Nat.le_of_ble_eq_true rfl) N96 G88 (hb hby d_rmst_82)
        have k104 : Go p e below m W T104 83 #[.val (.int p1), .val (.int p2), .val (.int (p1 &&& (255 : Int32))), .val (.int ((XT.ushr p1 (8 : Int32)) &&& (255 : Int32))), .val (.int ((XT.ushr p1 (16 : Int32)) &&& (255 : Int32)))] [(.ref b88), (.ref b82), (.ref b82)] := k104
        have Z104 : n0 ≤ h104.size := (Wr.size W104).symm ▸ Z96
        have DC104 := CHr.wr W104 sf98 C96.1
        have C104 := C96.trans DC104
        have sf105 := DC104.safe f100.lt sf97
        have sf106 := DC104.safe V96.lt sf98
        have hk104 : _ ≤ h104.size := Nat.le_trans hk96 DC104.2.1
        have f107 := f99.wr W104 G88
        have f108 := f100.wr W104
        have f109 := f101.other W104 (Or.inl ne88_b82)
        have f110 := f102.other W104 (Or.inl ne88_b82)
        rw [own_narc (XT.ushr p1 (8 : Int32))] at V104
        have V104 : Arv Z h104 b88 c88 .char (2 : Int32) [(.int (p1 &&& (255 : Int32))), (.int ((XT.ushr p1 (8 : Int32)) &&& (255 : Int32)))] (.int (0 : Int32)) := V104
        have K104 : Keep h0 h104 [] := K96.wr W104 (Or.inr H88)
        obtain ⟨T111, v111, L111, X111, Qr111, k111⟩ := k104.specB (y := (⟨"java/lang/String", "<init>", "([C)V"⟩ : MethodName)) (b := b82) (Wd := 1) (rc := 1) (rs := 2) (cells' := 3) (slots' := 8) (argsL := [(.ref b88)]) (rest := [(.ref b82)]) X104 hx hZ hown (by rw [hml]; rfl) rfl (hv 8 rfl) (hv 9 rfl) (hv 10 rfl) (hb hby d_rmst_83) (by decide) (StrChars.Road.backV (W := 1) hZ (fun d hd => hw d (own_words d hd)) (kI := 4) (hv 5 rfl) (cs := [(p1 &&& (255 : Int32)), ((XT.ushr p1 (8 : Int32)) &&& (255 : Int32))]) (bs := [((p1 &&& (255 : Int32))).toInt8.toInt32, (((XT.ushr p1 (8 : Int32)) &&& (255 : Int32))).toInt8.toInt32]) (n := 2) G82 Z104 f108 f110 f109 V104 (SCZ.ext f107.2) hcz rfl rfl (by decide) (by decide) (own_lat1 (own_and255 p1) (own_lat1 (own_and255 (XT.ushr p1 (8 : Int32))) own_lat0)) rfl (by decide) (by decide)) e104 rfl rfl pd_rmst_0 rfl (Nat.le_of_eq rfl) rfl rfl (by decide) (by decide)
        obtain ⟨qa111, qb111, qc111, qd111, qe111, t111, kb111, qf111, qg111, qh111, qi111, qj111⟩ := Qr111
        have Q111 : ∃ (ot : Addr) (okb : ClassId), v111 = none ∧ Fr n0 L111 ∧ Keep h104 T111.heap [b82] ∧ Exa Z T111.heap b82 "java/lang/String" ∧ Fld Z T111.heap b82 "java/lang/String" "coder" "B" (.int (0 : Int32)) ∧ n0 ≤ ot ∧ h104.size ≤ ot ∧ ot ≠ b82 ∧ Fld Z T111.heap b82 "java/lang/String" "value" "[B" (.ref ot) ∧ Arv Z T111.heap ot okb .byte (2 : Int32) [(.int ((p1 &&& (255 : Int32))).toInt8.toInt32), (.int (((XT.ushr p1 (8 : Int32)) &&& (255 : Int32))).toInt8.toInt32)] (.int (0 : Int32)) := ⟨t111, kb111, qa111, qb111, qc111, qd111, qe111, qf111, qg111, qh111, qi111, qj111⟩
        obtain ⟨ot_111, okb_111, rfl, Nq111, Kq111, q111_0, q111_1, q111_2, q111_3, q111_4, q111_5, q111_6⟩ := Q111
        have N111 := Fr.app N104 Nq111
        obtain ⟨h111, e111⟩ : ∃ h, T111.heap = h := ⟨_, rfl⟩
        rw [e111] at Kq111 q111_0 q111_1 q111_5 q111_6
        have Z111 : n0 ≤ h111.size := Nat.le_trans Z104 Kq111.1
        have DC111 := CHr.keep Kq111 (sfS sf105 sf0) C104.1
        have C111 := C104.trans DC111
        have sf113 := DC111.safe f108.lt sf105
        have sf114 := DC111.safe V104.lt sf106
        have hk111 : _ ≤ h111.size := Nat.le_trans hk104 DC111.2.1
        have f115 := f107.keep Kq111 (by intro x q; simp only [List.mem_cons, List.not_mem_nil, or_false] at q; rcases q with rfl; exact G82)
        have f116 := f108.keep Kq111
        have f117 := V104.keep Kq111 (by simp only [List.mem_cons, List.not_mem_nil, or_false, not_or]; exact (Ne.symm ne88_b82))
        have K111 : Keep h0 h111 [] := K104.trans Kq111 (by intro x q; simp only [List.mem_cons, List.not_mem_nil, or_false] at q; rcases q with rfl; exact (Or.inr H82))
        have ne118_b82 : b82 ≠ ot_111 := Nat.ne_of_lt (Nat.lt_of_lt_of_le f108.lt q111_3)
        have ne119_b88 : b88 ≠ ot_111 := Nat.ne_of_lt (Nat.lt_of_lt_of_le V104.lt q111_3)
        have H120 : h0.size ≤ ot_111 := Nat.le_trans K104.1 q111_3
        have k111 : Go p e below m W T111 86 #[.val (.int p1), .val (.int p2), .val (.int (p1 &&& (255 : Int32))), .val (.int ((XT.ushr p1 (8 : Int32)) &&& (255 : Int32))), .val (.int ((XT.ushr p1 (16 : Int32)) &&& (255 : Int32)))] [(.ref b82)] := k111
        exact k111.areturnS X111 hx hZ own_EL hS0 hk111 e111 (by rw [hh]; exact C111) Bd.returns rfl rfl (hb hby d_rmst_86) (BodyLoose.notSynchronized Bd) (by rw [e111]; exact ⟨b82, rfl, N111, K111, q111_0, G82, H82⟩) (by decide) (by decide)
      ·
        have k121 : Go p e below m W s₁ 87 #[.val (.int p1), .val (.int p2), .val (.int (p1 &&& (255 : Int32))), .val (.int ((XT.ushr p1 (8 : Int32)) &&& (255 : Int32))), .val (.int ((XT.ushr p1 (16 : Int32)) &&& (255 : Int32)))] [] := k79.icmpYes X0 hx (hb hby d_rmst_65) (XT.ii_ne_t hc65_80) (by decide) (by decide)
        obtain ⟨T122, h122, b122, X122, e122, g122, E122, A122, D122, k122⟩ := k121.newO (cells' := 1) (slots' := 4) X0 hx hZ hown (hv 4 rfl) (hv 5 rfl) (hv 6 rfl) e0 (hb hby d_rmst_87) rfl rfl (by decide) (by decide)
        have k122 : Go p e below m W T122 90 #[.val (.int p1), .val (.int p2), .val (.int (p1 &&& (255 : Int32))), .val (.int ((XT.ushr p1 (8 : Int32)) &&& (255 : Int32))), .val (.int ((XT.ushr p1 (16 : Int32)) &&& (255 : Int32)))] [(.ref b122)] := k122
        have Z122 : n0 ≤ h122.size := Nat.le_trans Z0 E122.1
        have f123 := O0.ext E122
        have G122 : n0 ≤ b122 := g122 ▸ Z0
        have H122 : h0.size ≤ b122 := g122 ▸ K0.1
        have K122 : Keep h0 h122 [] := K0.ext E122
        have DC122 := CHr.ext E122 C0.1
        have C122 := C0.trans DC122
        have hk122 : _ ≤ h122.size := Nat.le_trans hk0 DC122.2.1
        have sf124 := Safe.ext E122 C0.1 (Safe.new (x := b122) (Nat.le_of_eq g122.symm))
        have f125 : Fld Z h122 b122 "java/lang/String" "coder" "B" (.int (0 : Int32)) := D122 (Or.inr (hv 31 rfl)) (ty := .byte) (by decide)
        have f126 : Fld Z h122 b122 "java/lang/String" "value" "[B" .null := D122 (Or.inr (hv 33 rfl)) (ty := (.array .byte)) (by decide)
        have k127 : Go p e below m W T122 92 #[.val (.int p1), .val (.int p2), .val (.int (p1 &&& (255 : Int32))), .val (.int ((XT.ushr p1 (8 : Int32)) &&& (255 : Int32))), .val (.int ((XT.ushr p1 (16 : Int32)) &&& (255 : Int32)))] [(.int (3 : Int32)), (.ref b122), (.ref b122)] := (k122.dup X122 hx (hb hby d_rmst_90) rfl).iconst X122 hx (hb hby d_rmst_91) (v := (3 : Int32)) rfl
        obtain ⟨T128, h128, b128, c128, X128, e128, g128, E128, A128, k128⟩ := k127.newP (cap := 3) (cells' := 2) (slots' := 7) X122 hx hZ (hv 7 rfl) e122 (hb hby d_rmst_92) (by decide) (by decide) (by decide) rfl rfl (by decide) (by decide)
        have k128 : Go p e below m W T128 94 #[.val (.int p1), .val (.int p2), .val (.int (p1 &&& (255 : Int32))), .val (.int ((XT.ushr p1 (8 : Int32)) &&& (255 : Int32))), .val (.int ((XT.ushr p1 (16 : Int32)) &&& (255 : Int32)))] [(.ref b128), (.ref b122), (.ref b122)] := k128
        have Z128 : n0 ≤ h128.size := Nat.le_trans Z122 E128.1
        have ne128_b122 : b122 ≠ b128 := Nat.ne_of_lt (g128 ▸ A122.lt)
        have f129 := f123.ext E128
        have f130 := A122.ext E128
        have f131 := f125.ext E128
        have f132 := f126.ext E128
        have G128 : n0 ≤ b128 := g128 ▸ Z122
        have H128 : h0.size ≤ b128 := g128 ▸ K122.1
        have K128 : Keep h0 h128 [] := K122.ext E128
        have DC128 := CHr.ext E128 C122.1
        have C128 := C122.trans DC128
        have sf133 := DC128.safe A122.lt sf124
        have hk128 : _ ≤ h128.size := Nat.le_trans hk122 DC128.2.1
        have sf134 := Safe.ext E128 C122.1 (Safe.new (x := b128) (Nat.le_of_eq g128.symm))
        have V128 : Arv Z h128 b128 c128 .char (3 : Int32) [(.int (0 : Int32)), (.int (0 : Int32)), (.int (0 : Int32))] (.int (0 : Int32)) := A128 3
        have k135 : Go p e below m W T128 97 #[.val (.int p1), .val (.int p2), .val (.int (p1 &&& (255 : Int32))), .val (.int ((XT.ushr p1 (8 : Int32)) &&& (255 : Int32))), .val (.int ((XT.ushr p1 (16 : Int32)) &&& (255 : Int32)))] [(.int (p1 &&& (255 : Int32))), (.int (0 : Int32)), (.ref b128), (.ref b128), (.ref b122), (.ref b122)] := ((k128.dup X128 hx (hb hby d_rmst_94) rfl).iconst X128 hx (hb hby d_rmst_95) (v := (0 : Int32)) rfl).iloadN X128 hx (hb hby d_rmst_96) rfl
        obtain ⟨T136, h136, l136, X136, e136, W136, V136, N136, k136⟩ := k135.castore (i := 0) X128 hx hZ e128 V128 rfl rfl (by decide) (Nat.le_of_ble_eq_true rfl) N0 G128 (hb hby d_rmst_97)
        have k136 : Go p e below m W T136 98 #[.val (.int p1), .val (.int p2), .val (.int (p1 &&& (255 : Int32))), .val (.int ((XT.ushr p1 (8 : Int32)) &&& (255 : Int32))), .val (.int ((XT.ushr p1 (16 : Int32)) &&& (255 : Int32)))] [(.ref b128), (.ref b122), (.ref b122)] := k136
        have Z136 : n0 ≤ h136.size := (Wr.size W136).symm ▸ Z128
        have DC136 := CHr.wr W136 sf134 C128.1
        have C136 := C128.trans DC136
        have sf137 := DC136.safe f130.lt sf133
        have sf138 := DC136.safe V128.lt sf134
        have hk136 : _ ≤ h136.size := Nat.le_trans hk128 DC136.2.1
        have f139 := f129.wr W136 G128
        have f140 := f130.wr W136
        have f141 := f131.other W136 (Or.inl ne128_b122)
        have f142 := f132.other W136 (Or.inl ne128_b122)
        rw [own_narc p1] at V136
        have V136 : Arv Z h136 b128 c128 .char (3 : Int32) [(.int (p1 &&& (255 : Int32))), (.int (0 : Int32)), (.int (0 : Int32))] (.int (0 : Int32)) := V136
        have K136 : Keep h0 h136 [] := K128.wr W136 (Or.inr H128)
        have k143 : Go p e below m W T136 101 #[.val (.int p1), .val (.int p2), .val (.int (p1 &&& (255 : Int32))), .val (.int ((XT.ushr p1 (8 : Int32)) &&& (255 : Int32))), .val (.int ((XT.ushr p1 (16 : Int32)) &&& (255 : Int32)))] [(.int ((XT.ushr p1 (8 : Int32)) &&& (255 : Int32))), (.int (1 : Int32)), (.ref b128), (.ref b128), (.ref b122), (.ref b122)] := ((k136.dup X136 hx (hb hby d_rmst_98) rfl).iconst X136 hx (hb hby d_rmst_99) (v := (1 : Int32)) rfl).iloadN X136 hx (hb hby d_rmst_100) rfl
        obtain ⟨T144, h144, l144, X144, e144, W144, V144, N144, k144⟩ := k143.castore (i := 1) X136 hx hZ e136 V136 rfl rfl (by decide) (Nat.le_of_ble_eq_true rfl) N136 G128 (hb hby d_rmst_101)
        have k144 : Go p e below m W T144 102 #[.val (.int p1), .val (.int p2), .val (.int (p1 &&& (255 : Int32))), .val (.int ((XT.ushr p1 (8 : Int32)) &&& (255 : Int32))), .val (.int ((XT.ushr p1 (16 : Int32)) &&& (255 : Int32)))] [(.ref b128), (.ref b122), (.ref b122)] := k144
        have Z144 : n0 ≤ h144.size := (Wr.size W144).symm ▸ Z136
        have DC144 := CHr.wr W144 sf138 C136.1
        have C144 := C136.trans DC144
        have sf145 := DC144.safe f140.lt sf137
        have sf146 := DC144.safe V136.lt sf138
        have hk144 : _ ≤ h144.size := Nat.le_trans hk136 DC144.2.1
        have f147 := f139.wr W144 G128
        have f148 := f140.wr W144
        have f149 := f141.other W144 (Or.inl ne128_b122)
        have f150 := f142.other W144 (Or.inl ne128_b122)
        rw [own_narc (XT.ushr p1 (8 : Int32))] at V144
        have V144 : Arv Z h144 b128 c128 .char (3 : Int32) [(.int (p1 &&& (255 : Int32))), (.int ((XT.ushr p1 (8 : Int32)) &&& (255 : Int32))), (.int (0 : Int32))] (.int (0 : Int32)) := V144
        have K144 : Keep h0 h144 [] := K136.wr W144 (Or.inr H128)
        have k151 : Go p e below m W T144 106 #[.val (.int p1), .val (.int p2), .val (.int (p1 &&& (255 : Int32))), .val (.int ((XT.ushr p1 (8 : Int32)) &&& (255 : Int32))), .val (.int ((XT.ushr p1 (16 : Int32)) &&& (255 : Int32)))] [(.int ((XT.ushr p1 (16 : Int32)) &&& (255 : Int32))), (.int (2 : Int32)), (.ref b128), (.ref b128), (.ref b122), (.ref b122)] := ((k144.dup X144 hx (hb hby d_rmst_102) rfl).iconst X144 hx (hb hby d_rmst_103) (v := (2 : Int32)) rfl).iload X144 hx (hb hby d_rmst_104) rfl
        obtain ⟨T152, h152, l152, X152, e152, W152, V152, N152, k152⟩ := k151.castore (i := 2) X144 hx hZ e144 V144 rfl rfl (by decide) (Nat.le_of_ble_eq_true rfl) N144 G128 (hb hby d_rmst_106)
        have k152 : Go p e below m W T152 107 #[.val (.int p1), .val (.int p2), .val (.int (p1 &&& (255 : Int32))), .val (.int ((XT.ushr p1 (8 : Int32)) &&& (255 : Int32))), .val (.int ((XT.ushr p1 (16 : Int32)) &&& (255 : Int32)))] [(.ref b128), (.ref b122), (.ref b122)] := k152
        have Z152 : n0 ≤ h152.size := (Wr.size W152).symm ▸ Z144
        have DC152 := CHr.wr W152 sf146 C144.1
        have C152 := C144.trans DC152
        have sf153 := DC152.safe f148.lt sf145
        have sf154 := DC152.safe V144.lt sf146
        have hk152 : _ ≤ h152.size := Nat.le_trans hk144 DC152.2.1
        have f155 := f147.wr W152 G128
        have f156 := f148.wr W152
        have f157 := f149.other W152 (Or.inl ne128_b122)
        have f158 := f150.other W152 (Or.inl ne128_b122)
        rw [own_narc (XT.ushr p1 (16 : Int32))] at V152
        have V152 : Arv Z h152 b128 c128 .char (3 : Int32) [(.int (p1 &&& (255 : Int32))), (.int ((XT.ushr p1 (8 : Int32)) &&& (255 : Int32))), (.int ((XT.ushr p1 (16 : Int32)) &&& (255 : Int32)))] (.int (0 : Int32)) := V152
        have K152 : Keep h0 h152 [] := K144.wr W152 (Or.inr H128)
        obtain ⟨T159, v159, L159, X159, Qr159, k159⟩ := k152.specB (y := (⟨"java/lang/String", "<init>", "([C)V"⟩ : MethodName)) (b := b122) (Wd := 1) (rc := 1) (rs := 3) (cells' := 3) (slots' := 10) (argsL := [(.ref b128)]) (rest := [(.ref b122)]) X152 hx hZ hown (by rw [hml]; rfl) rfl (hv 8 rfl) (hv 9 rfl) (hv 10 rfl) (hb hby d_rmst_107) (by decide) (StrChars.Road.backV (W := 1) hZ (fun d hd => hw d (own_words d hd)) (kI := 4) (hv 5 rfl) (cs := [(p1 &&& (255 : Int32)), ((XT.ushr p1 (8 : Int32)) &&& (255 : Int32)), ((XT.ushr p1 (16 : Int32)) &&& (255 : Int32))]) (bs := [((p1 &&& (255 : Int32))).toInt8.toInt32, (((XT.ushr p1 (8 : Int32)) &&& (255 : Int32))).toInt8.toInt32, (((XT.ushr p1 (16 : Int32)) &&& (255 : Int32))).toInt8.toInt32]) (n := 3) G122 Z152 f156 f158 f157 V152 (SCZ.ext f155.2) hcz rfl rfl (by decide) (by decide) (own_lat1 (own_and255 p1) (own_lat1 (own_and255 (XT.ushr p1 (8 : Int32))) (own_lat1 (own_and255 (XT.ushr p1 (16 : Int32))) own_lat0))) rfl (by decide) (by decide)) e152 rfl rfl pd_rmst_0 rfl (Nat.le_of_eq rfl) rfl rfl (by decide) (by decide)
        obtain ⟨qa159, qb159, qc159, qd159, qe159, t159, kb159, qf159, qg159, qh159, qi159, qj159⟩ := Qr159
        have Q159 : ∃ (ot : Addr) (okb : ClassId), v159 = none ∧ Fr n0 L159 ∧ Keep h152 T159.heap [b122] ∧ Exa Z T159.heap b122 "java/lang/String" ∧ Fld Z T159.heap b122 "java/lang/String" "coder" "B" (.int (0 : Int32)) ∧ n0 ≤ ot ∧ h152.size ≤ ot ∧ ot ≠ b122 ∧ Fld Z T159.heap b122 "java/lang/String" "value" "[B" (.ref ot) ∧ Arv Z T159.heap ot okb .byte (3 : Int32) [(.int ((p1 &&& (255 : Int32))).toInt8.toInt32), (.int (((XT.ushr p1 (8 : Int32)) &&& (255 : Int32))).toInt8.toInt32), (.int (((XT.ushr p1 (16 : Int32)) &&& (255 : Int32))).toInt8.toInt32)] (.int (0 : Int32)) := ⟨t159, kb159, qa159, qb159, qc159, qd159, qe159, qf159, qg159, qh159, qi159, qj159⟩
        obtain ⟨ot_159, okb_159, rfl, Nq159, Kq159, q159_0, q159_1, q159_2, q159_3, q159_4, q159_5, q159_6⟩ := Q159
        have N159 := Fr.app N152 Nq159
        obtain ⟨h159, e159⟩ : ∃ h, T159.heap = h := ⟨_, rfl⟩
        rw [e159] at Kq159 q159_0 q159_1 q159_5 q159_6
        have Z159 : n0 ≤ h159.size := Nat.le_trans Z152 Kq159.1
        have DC159 := CHr.keep Kq159 (sfS sf153 sf0) C152.1
        have C159 := C152.trans DC159
        have sf161 := DC159.safe f156.lt sf153
        have sf162 := DC159.safe V152.lt sf154
        have hk159 : _ ≤ h159.size := Nat.le_trans hk152 DC159.2.1
        have f163 := f155.keep Kq159 (by intro x q; simp only [List.mem_cons, List.not_mem_nil, or_false] at q; rcases q with rfl; exact G122)
        have f164 := f156.keep Kq159
        have f165 := V152.keep Kq159 (by simp only [List.mem_cons, List.not_mem_nil, or_false, not_or]; exact (Ne.symm ne128_b122))
        have K159 : Keep h0 h159 [] := K152.trans Kq159 (by intro x q; simp only [List.mem_cons, List.not_mem_nil, or_false] at q; rcases q with rfl; exact (Or.inr H122))
        have ne166_b122 : b122 ≠ ot_159 := Nat.ne_of_lt (Nat.lt_of_lt_of_le f156.lt q159_3)
        have ne167_b128 : b128 ≠ ot_159 := Nat.ne_of_lt (Nat.lt_of_lt_of_le V152.lt q159_3)
        have H168 : h0.size ≤ ot_159 := Nat.le_trans K152.1 q159_3
        have k159 : Go p e below m W T159 110 #[.val (.int p1), .val (.int p2), .val (.int (p1 &&& (255 : Int32))), .val (.int ((XT.ushr p1 (8 : Int32)) &&& (255 : Int32))), .val (.int ((XT.ushr p1 (16 : Int32)) &&& (255 : Int32)))] [(.ref b122)] := k159
        exact k159.areturnS X159 hx hZ own_EL hS0 hk159 e159 (by rw [hh]; exact C159) Bd.returns rfl rfl (hb hby d_rmst_110) (BodyLoose.notSynchronized Bd) (by rw [e159]; exact ⟨b122, rfl, N159, K159, q159_0, G122, H122⟩) (by decide) (by decide)

theorem d_rme_0 : decode prog_5_method_1_code 0 = .ok (.aload_n 0, 1) := by decide +kernel
theorem d_rme_1 : decode prog_5_method_1_code 1 = .ok (.invokespecial 1, 3) := by decide +kernel
theorem d_rme_4 : decode prog_5_method_1_code 4 = .ok (.return_, 1) := by decide +kernel
theorem pn_rme : plainName "com/example/ikat/ikat/core/LinkEdit" = true := by first | (simp [plainName, overriddenIn]; done) | decide +kernel
theorem ef_rme (m : MethodId) (a1 : Addr) : entryFrame m #[(.ref a1)] 1 = mkF m 0 #[.val (.ref a1)] [] := by first | (simp [entryFrame, mkF, argsToLocals, Value.category]; done) | rfl
def Q_rme (Z : State) (a1 : Addr) (h0 : Heap) (n0 : Nat) (v : Option Value) (h : Heap) (L : List Loc) : Prop := v = none ∧ Fr n0 L ∧ h = h0
set_option maxRecDepth 65536 in
set_option maxHeartbeats 40000000 in
theorem rme (l : Launch) (Z : State) (a0 : Array Value) (hw : ∀ d ∈ tables_1, d.before a0 Z = true) (ws : List Jvm.Cond) (a1 : Addr) (h0 : Heap) (n0 : Nat) (Z0 : n0 ≤ h0.size)  :
    MetFree l (⟨"com/example/ikat/ikat/core/LinkEdit", "<init>", "()V"⟩ : MethodName) (head1 (Jvm.Cond.code (⟨"com/example/ikat/ikat/core/LinkEdit", "<init>", "()V"⟩ : MethodName) prog_5_method_1_code 1 none :: ws) ({ frames := 1, cells := 0, slots := 0, locals := 12 } : Room)) (fun a U => a = #[(.ref a1)] ∧ Z.Warmed39 U.vm ∧ U.heap = h0) (fun _ _ _ _ _ => True) (fun _ U o U' => ∃ v L, o = .returned v ∧ Q_rme Z a1 h0 n0 v U'.heap L ∧ FrameEnd U o U' L ({ frames := 1, cells := 0, slots := 0, locals := 12 } : Room).cells ({ frames := 1, cells := 0, slots := 0, locals := 12 } : Room).slots) := by
  refine MetFree.of_bodySF (plainFor_of_name pn_rme) hisR ?_
  intro p e s m args_ below meth c s₁ Bd hml0 hP hK
  obtain ⟨hargs, hZ, hh⟩ := hP
  have hx := Bd.exec
  have hby := Bd.bytes
  have hml : c.maxLocals = 1 := hml0
  have hown : s.vm.findClass "com/example/ikat/ikat/core/LinkEdit" = some m.cls := findClass_of_methodNamed Bd.named
  have hnm := (name_of_methodNamed Bd.named Bd.method).1
  have X0 : Stand p l e ({ frames := 1, cells := 0, slots := 0, locals := 12 } : Room) s m args_ below meth c s₁ [] 0 0 := Stand.of_body Bd
  have e0 : s₁.heap = h0 := by rw [← hh, Bd.state]; rfl
  have N0 := Fr.nil n0
  have hv : ∀ (i : Nat) {d : Jvm.Cond}, tables_1[i]? = some d → d.before a0 Z = true := fun i d q => hw d (List.mem_of_getElem? q)
  have k0 : Go p e below m (s₁.setTop (entryFrame m args_ 1)) s₁ 0 #[.val (.ref a1)] [] := by rw [hargs]; exact fun t kt => castTop (ef_rme m a1) kt
  obtain ⟨W, hWW⟩ : ∃ W, W = s₁.setTop (entryFrame m args_ 1) := ⟨_, rfl⟩
  rw [← hWW] at k0 ⊢
  show Done p e below s W (Q_rme Z a1 h0 n0) ({ frames := 1, cells := 0, slots := 0, locals := 12 } : Room).cells ({ frames := 1, cells := 0, slots := 0, locals := 12 } : Room).slots
  have k20 : Go p e below m W s₁ 1 #[.val (.ref a1)] [(.ref a1)] := k0.aloadN X0 hx (hb hby d_rme_0) rfl rfl
  obtain ⟨T21, X21, e21, k21⟩ := k20.initO (Wd := 0) X0 hx hZ hown (by rw [hml]; rfl) (hv 43 rfl) (hv 16 rfl) (hv 17 rfl) e0 (hb hby d_rme_1) (Nat.le_of_eq rfl) (by decide) (by decide)
  have k21 : Go p e below m W T21 4 #[.val (.ref a1)] [] := k21
  exact k21.return_ X21 hx Bd.returns (hb hby d_rme_4) (BodyLoose.notSynchronized Bd) (by rw [e21]; exact ⟨rfl, N0, rfl⟩) (by decide) (by decide)

theorem d_rmrn_0 : decode jdk_31_method_11_code 0 = .ok (.aload_n 0, 1) := by decide +kernel
theorem d_rmrn_1 : decode jdk_31_method_11_code 1 = .ok (.ifnonnull 12, 3) := by decide +kernel
theorem d_rmrn_13 : decode jdk_31_method_11_code 13 = .ok (.aload_n 0, 1) := by decide +kernel
theorem d_rmrn_14 : decode jdk_31_method_11_code 14 = .ok (.areturn, 1) := by decide +kernel
theorem pn_rmrn : plainName "java/util/Objects" = true := by first | (simp [plainName, overriddenIn]; done) | decide +kernel
theorem ef_rmrn (m : MethodId) (a1 : Addr) (a2 : Addr) : entryFrame m #[(.ref a1), (.ref a2)] 2 = mkF m 0 #[.val (.ref a1), .val (.ref a2)] [] := by first | (simp [entryFrame, mkF, argsToLocals, Value.category]; done) | rfl
def Q_rmrn (Z : State) (a1 : Addr) (a2 : Addr) (h0 : Heap) (n0 : Nat) (v : Option Value) (h : Heap) (L : List Loc) : Prop := v = some (.ref a1) ∧ Fr n0 L ∧ h = h0
set_option maxRecDepth 65536 in
set_option maxHeartbeats 40000000 in
theorem rmrn (l : Launch) (Z : State) (a0 : Array Value) (hw : ∀ d ∈ tables_1, d.before a0 Z = true) (ws : List Jvm.Cond) (a1 : Addr) (a2 : Addr) (h0 : Heap) (n0 : Nat) (Z0 : n0 ≤ h0.size)  :
    MetFree l (⟨"java/util/Objects", "requireNonNull", "(Ljava/lang/Object;Ljava/lang/String;)Ljava/lang/Object;"⟩ : MethodName) (head1 (Jvm.Cond.code (⟨"java/util/Objects", "requireNonNull", "(Ljava/lang/Object;Ljava/lang/String;)Ljava/lang/Object;"⟩ : MethodName) jdk_31_method_11_code 2 (some (.object "java/lang/Object")) :: ws) ({ frames := 0, cells := 0, slots := 0, locals := 0 } : Room)) (fun a U => a = #[(.ref a1), (.ref a2)] ∧ Z.Warmed39 U.vm ∧ U.heap = h0) (fun _ _ _ _ _ => True) (fun _ U o U' => ∃ v L, o = .returned v ∧ Q_rmrn Z a1 a2 h0 n0 v U'.heap L ∧ FrameEnd U o U' L ({ frames := 0, cells := 0, slots := 0, locals := 0 } : Room).cells ({ frames := 0, cells := 0, slots := 0, locals := 0 } : Room).slots) := by
  refine MetFree.of_bodySF (plainFor_of_name pn_rmrn) hisR ?_
  intro p e s m args_ below meth c s₁ Bd hml0 hP hK
  obtain ⟨hargs, hZ, hh⟩ := hP
  have hx := Bd.exec
  have hby := Bd.bytes
  have hml : c.maxLocals = 2 := hml0
  have hown : s.vm.findClass "java/util/Objects" = some m.cls := findClass_of_methodNamed Bd.named
  have hnm := (name_of_methodNamed Bd.named Bd.method).1
  have X0 : Stand p l e ({ frames := 0, cells := 0, slots := 0, locals := 0 } : Room) s m args_ below meth c s₁ [] 0 0 := Stand.of_body Bd
  have e0 : s₁.heap = h0 := by rw [← hh, Bd.state]; rfl
  have N0 := Fr.nil n0
  have hv : ∀ (i : Nat) {d : Jvm.Cond}, tables_1[i]? = some d → d.before a0 Z = true := fun i d q => hw d (List.mem_of_getElem? q)
  have k0 : Go p e below m (s₁.setTop (entryFrame m args_ 2)) s₁ 0 #[.val (.ref a1), .val (.ref a2)] [] := by rw [hargs]; exact fun t kt => castTop (ef_rmrn m a1 a2) kt
  obtain ⟨W, hWW⟩ : ∃ W, W = s₁.setTop (entryFrame m args_ 2) := ⟨_, rfl⟩
  rw [← hWW] at k0 ⊢
  show Done p e below s W (Q_rmrn Z a1 a2 h0 n0) ({ frames := 0, cells := 0, slots := 0, locals := 0 } : Room).cells ({ frames := 0, cells := 0, slots := 0, locals := 0 } : Room).slots
  have k20 : Go p e below m W s₁ 14 #[.val (.ref a1), .val (.ref a2)] [(.ref a1)] := ((k0.aloadN X0 hx (hb hby d_rmrn_0) rfl rfl).nonnullYes X0 hx (hb hby d_rmrn_1) rfl (fun q => by cases q) (by decide) (by decide)).aloadN X0 hx (hb hby d_rmrn_13) rfl rfl
  exact k20.areturn X0 hx Bd.returns rfl rfl (hb hby d_rmrn_14) (BodyLoose.notSynchronized Bd) (by rw [e0]; exact ⟨rfl, N0, rfl⟩) (by decide) (by decide)

theorem d_rmsd_0 : decode prog_5_method_2_code 0 = .ok (.aload_n 0, 1) := by decide +kernel
theorem d_rmsd_1 : decode prog_5_method_2_code 1 = .ok (.aload_n 1, 1) := by decide +kernel
theorem d_rmsd_2 : decode prog_5_method_2_code 2 = .ok (.ldc 7, 2) := by decide +kernel
theorem d_rmsd_4 : decode prog_5_method_2_code 4 = .ok (.invokestatic 9, 3) := by decide +kernel
theorem d_rmsd_7 : decode prog_5_method_2_code 7 = .ok (.checkcast 15, 3) := by decide +kernel
theorem d_rmsd_10 : decode prog_5_method_2_code 10 = .ok (.putfield 17, 3) := by decide +kernel
theorem d_rmsd_13 : decode prog_5_method_2_code 13 = .ok (.aload_n 0, 1) := by decide +kernel
theorem d_rmsd_14 : decode prog_5_method_2_code 14 = .ok (.areturn, 1) := by decide +kernel
theorem pn_rmsd : plainName "com/example/ikat/ikat/core/LinkEdit" = true := by first | (simp [plainName, overriddenIn]; done) | decide +kernel
theorem pd_rmsd_0 : parseMethodDescriptor "(Ljava/lang/Object;Ljava/lang/String;)Ljava/lang/Object;" = some ⟨[(.object "java/lang/Object"), (.object "java/lang/String")], (some (.object "java/lang/Object"))⟩ := by decide +kernel
theorem ef_rmsd (m : MethodId) (a1 : Addr) (a2 : Addr) : entryFrame m #[(.ref a1), (.ref a2)] 2 = mkF m 0 #[.val (.ref a1), .val (.ref a2)] [] := by first | (simp [entryFrame, mkF, argsToLocals, Value.category]; done) | rfl
def Q_rmsd (Z : State) (a1 : Addr) (a2 : Addr) (u0 : Value) (u1 : Value) (u2 : Value) (u3 : Value) (u4 : Value) (u5 : Value) (h0 : Heap) (n0 : Nat) (v : Option Value) (h : Heap) (L : List Loc) : Prop := v = some (.ref a1) ∧ Fr n0 L ∧ Keep h0 h [a1] ∧ Exa Z h a1 "com/example/ikat/ikat/core/LinkEdit" ∧ Fld Z h a1 "com/example/ikat/ikat/core/LinkEdit" "destination" "Ljava/lang/String;" (.ref a2) ∧ Fld Z h a1 "com/example/ikat/ikat/core/LinkEdit" "paused" "Ljava/lang/Boolean;" u1 ∧ Fld Z h a1 "com/example/ikat/ikat/core/LinkEdit" "changesExpiry" "Z" u2 ∧ Fld Z h a1 "com/example/ikat/ikat/core/LinkEdit" "expiresAt" "Ljava/time/Instant;" u3 ∧ Fld Z h a1 "com/example/ikat/ikat/core/LinkEdit" "changesMaxVisits" "Z" u4 ∧ Fld Z h a1 "com/example/ikat/ikat/core/LinkEdit" "maxVisits" "Ljava/lang/Integer;" u5
set_option maxRecDepth 65536 in
set_option maxHeartbeats 40000000 in
theorem rmsd (l : Launch) (Z : State) (a0 : Array Value) (hw : ∀ d ∈ tables_1, d.before a0 Z = true) (ws : List Jvm.Cond) (a1 : Addr) (a2 : Addr) (u0 : Value) (u1 : Value) (u2 : Value) (u3 : Value) (u4 : Value) (u5 : Value) (h0 : Heap) (n0 : Nat) (Z0 : n0 ≤ h0.size) (E1 : Exa Z h0 a1 "com/example/ikat/ikat/core/LinkEdit") (G1 : n0 ≤ a1) (E2 : Exa Z h0 a2 "java/lang/String") (F0 : Fld Z h0 a1 "com/example/ikat/ikat/core/LinkEdit" "destination" "Ljava/lang/String;" u0) (F1 : Fld Z h0 a1 "com/example/ikat/ikat/core/LinkEdit" "paused" "Ljava/lang/Boolean;" u1) (F2 : Fld Z h0 a1 "com/example/ikat/ikat/core/LinkEdit" "changesExpiry" "Z" u2) (F3 : Fld Z h0 a1 "com/example/ikat/ikat/core/LinkEdit" "expiresAt" "Ljava/time/Instant;" u3) (F4 : Fld Z h0 a1 "com/example/ikat/ikat/core/LinkEdit" "changesMaxVisits" "Z" u4) (F5 : Fld Z h0 a1 "com/example/ikat/ikat/core/LinkEdit" "maxVisits" "Ljava/lang/Integer;" u5) :
    MetFree l (⟨"com/example/ikat/ikat/core/LinkEdit", "destination", "(Ljava/lang/String;)Lcom/example/ikat/ikat/core/LinkEdit;"⟩ : MethodName) (head1 (Jvm.Cond.code (⟨"com/example/ikat/ikat/core/LinkEdit", "destination", "(Ljava/lang/String;)Lcom/example/ikat/ikat/core/LinkEdit;"⟩ : MethodName) prog_5_method_2_code 2 (some (.object "com/example/ikat/ikat/core/LinkEdit")) :: ws) ({ frames := 1, cells := 2, slots := 48, locals := 14 } : Room)) (fun a U => a = #[(.ref a1), (.ref a2)] ∧ Z.Warmed39 U.vm ∧ U.heap = h0 ∧ CHv Z own_L U.vm h0 ∧ ∀ x ∈ ([] : List Addr), Safe Z own_L U.vm h0 x) (fun _ _ _ _ _ => True) (fun _ U o U' => ∃ v L, o = .returned v ∧ Q_rmsd Z a1 a2 u0 u1 u2 u3 u4 u5 h0 n0 v U'.heap L ∧ CHr Z own_L U.vm U.heap U'.vm U'.heap ∧ ReturnedEndW U o U' L ({ frames := 1, cells := 2, slots := 48, locals := 14 } : Room).cells ({ frames := 1, cells := 2, slots := 48, locals := 14 } : Room).slots) := by
  refine MetFree.of_bodySF (plainFor_of_name pn_rmsd) hisR ?_
  intro p e s m args_ below meth c s₁ Bd hml0 hP hK
  obtain ⟨hargs, hZ, hh, hcv, hsf0⟩ := hP
  have hx := Bd.exec
  have hby := Bd.bytes
  have hml : c.maxLocals = 2 := hml0
  have hown : s.vm.findClass "com/example/ikat/ikat/core/LinkEdit" = some m.cls := findClass_of_methodNamed Bd.named
  have hnm := (name_of_methodNamed Bd.named Bd.method).1
  have X0 : Stand p l e ({ frames := 1, cells := 2, slots := 48, locals := 14 } : Room) (s.setVm s.vm) m args_ below meth c s₁ [] 0 0 := Stand.of_body Bd
  have e0 : s₁.heap = h0 := by rw [← hh, Bd.state]; rfl
  have N0 := Fr.nil n0
  have C0 : CHr Z own_L s.vm h0 s.vm h0 := CHr.refl hcv
  have hS0 : s.Since s.vm h0.size := (State.WarmedH.refl s).since _
  have hk0 : h0.size ≤ h0.size := Nat.le_refl _
  have own_EL : EW Z a0 own_L := own_EL0 hw
  have own_sa : ∀ a ∈ Bundle.stringAtoms, a.before a0 Z = true := own_sa0 hw
  have hv : ∀ (i : Nat) {d : Jvm.Cond}, tables_1[i]? = some d → d.before a0 Z = true := fun i d q => hw d (List.mem_of_getElem? q)
  have K0 : Keep h0 h0 [a1] := Keep.refl _ _
  have k0 : Go p e below m (s₁.setTop (entryFrame m args_ 2)) s₁ 0 #[.val (.ref a1), .val (.ref a2)] [] := by rw [hargs]; exact fun t kt => castTop (ef_rmsd m a1 a2) kt
  obtain ⟨W, hWW⟩ : ∃ W, W = s₁.setTop (entryFrame m args_ 2) := ⟨_, rfl⟩
  rw [← hWW] at k0 ⊢
  show DoneS p e below Z own_L s W (Q_rmsd Z a1 a2 u0 u1 u2 u3 u4 u5 h0 n0) ({ frames := 1, cells := 2, slots := 48, locals := 14 } : Room).cells ({ frames := 1, cells := 2, slots := 48, locals := 14 } : Room).slots
  have k20 : Go p e below m W s₁ 2 #[.val (.ref a1), .val (.ref a2)] [(.ref a2), (.ref a1)] := (k0.aloadN X0 hx (hb hby d_rmsd_0) rfl rfl).aloadN X0 hx (hb hby d_rmsd_1) rfl rfl
  obtain ⟨T21, h21, b21, kk21, bb21, kb21, X21, e21, E21, hS21, hq21, hZ21, hown21, fe21, fc21, fv21, fa21, D21, hne21, k21⟩ := k20.ldcS (cells' := 2) (slots' := 48) (n := 44) (vs := [.int (100 : Int32), .int (101 : Int32), .int (115 : Int32), .int (116 : Int32), .int (105 : Int32), .int (110 : Int32), .int (97 : Int32), .int (116 : Int32), .int (105 : Int32), .int (111 : Int32), .int (110 : Int32)]) (z := (11 : Int32)) X0 hx hZ hown (hv 61 rfl) own_sa e0 hS0 hk0 own_EL (by decide) C0.1 own_t11 (by decide) rfl (hb hby d_rmsd_2) (by decide) (by decide) rfl rfl (by decide) (by decide)
  have k21 : Go p e below m W T21 4 #[.val (.ref a1), .val (.ref a2)] [(.ref b21), (.ref a2), (.ref a1)] := k21
  have Z21 : n0 ≤ h21.size := Nat.le_trans Z0 E21.1
  have f22 := E1.ext E21
  have f23 := E2.ext E21
  have f24 := F0.ext E21
  have f25 := F1.ext E21
  have f26 := F2.ext E21
  have f27 := F3.ext E21
  have f28 := F4.ext E21
  have f29 := F5.ext E21
  have C21 := C0.trans D21
  have K21 : Keep h0 h21 [a1] := K0.ext E21
  obtain ⟨T30, v30, L30, X30, Q30, k30⟩ := k21.stat (y := (⟨"java/util/Objects", "requireNonNull", "(Ljava/lang/Object;Ljava/lang/String;)Ljava/lang/Object;"⟩ : MethodName)) (Wd := 1) (cells' := 2) (slots' := 48) (argsL := [(.ref a2), (.ref b21)]) (rest := [(.ref a1)]) X21 hx hZ21 hown21 (by rw [hml]; rfl) (hv 62 rfl) (hv 63 rfl) (hv 65 rfl) (hv 64 rfl) (hb hby d_rmsd_4) (by decide) (rmrn l Z a0 hw [] a2 b21 h21 n0 Z21) e21 rfl rfl pd_rmsd_0 rfl (Nat.le_of_eq rfl) (by decide) (by decide) rfl rfl (by decide) (by decide)
  obtain ⟨rfl, Nq30, e30q⟩ := Q30
  have N30 := Fr.app N0 Nq30
  have e30 : T30.heap = h21 := e30q
  have k30 : Go p e below m W T30 7 #[.val (.ref a1), .val (.ref a2)] [(.ref a2), (.ref a1)] := k30
  obtain ⟨T31, X31, e31, k31⟩ := k30.castY X30 hx hZ21 hown21 (hv 66 rfl) e30 (Ins.self f23) (hb hby d_rmsd_7)
  have k31 : Go p e below m W T31 10 #[.val (.ref a1), .val (.ref a2)] [(.ref a2), (.ref a1)] := k31
  obtain ⟨T32, h32, l32, X32, e32, W32, N32, k32⟩ := k31.putF X31 hx hZ21 hown21 (host := "") (Or.inl (hv 67 rfl)) Via.refl e31 f24 f22 (Or.inl (hv 68 rfl)) (hv 38 rfl) (ty := (.object "java/lang/String")) (by decide) rfl rfl N30 G1 (hb hby d_rmsd_10)
  have k32 : Go p e below m W T32 13 #[.val (.ref a1), .val (.ref a2)] [] := k32
  have Z32 : n0 ≤ h32.size := (Wr.size W32).symm ▸ Z21
  have DC32 := CHr.wr W32 (Safe.exa hZ21.alike f22 (by decide) (by decide)) C21.1
  have C32 := C21.trans DC32
  have hk32 : _ ≤ h32.size := Nat.le_trans hq21 DC32.2.1
  have f33 := f22.wr W32
  have f34 := f23.wr W32
  have f35 := f24.same W32
  have f36 := f25.other W32 (Or.inr (slot_ne (Or.inl (hv 55 rfl)) (Or.inl (hv 68 rfl)) (by decide) (by decide : parseFieldDescriptor "Ljava/lang/Boolean;" = some (.object "java/lang/Boolean")) (by decide : parseFieldDescriptor "Ljava/lang/String;" = some (.object "java/lang/String"))))
  have f37 := f26.other W32 (Or.inr (slot_ne (Or.inl (hv 92 rfl)) (Or.inl (hv 68 rfl)) (by decide) (by decide : parseFieldDescriptor "Z" = some .boolean) (by decide : parseFieldDescriptor "Ljava/lang/String;" = some (.object "java/lang/String"))))
  have f38 := f27.other W32 (Or.inr (slot_ne (Or.inl (hv 99 rfl)) (Or.inl (hv 68 rfl)) (by decide) (by decide : parseFieldDescriptor "Ljava/time/Instant;" = some (.object "java/time/Instant")) (by decide : parseFieldDescriptor "Ljava/lang/String;" = some (.object "java/lang/String"))))
  have f39 := f28.other W32 (Or.inr (slot_ne (Or.inl (hv 106 rfl)) (Or.inl (hv 68 rfl)) (by decide) (by decide : parseFieldDescriptor "Z" = some .boolean) (by decide : parseFieldDescriptor "Ljava/lang/String;" = some (.object "java/lang/String"))))
  have f40 := f29.other W32 (Or.inr (slot_ne (Or.inl (hv 113 rfl)) (Or.inl (hv 68 rfl)) (by decide) (by decide : parseFieldDescriptor "Ljava/lang/Integer;" = some (.object "java/lang/Integer")) (by decide : parseFieldDescriptor "Ljava/lang/String;" = some (.object "java/lang/String"))))
  have f41 := fe21.wr W32
  have f42 := fc21.other W32 (Or.inl (ne_exa fe21 f22 (by decide)))
  have f43 := fv21.other W32 (Or.inl (ne_exa fe21 f22 (by decide)))
  have K32 : Keep h0 h32 [a1] := K21.wr W32 (Or.inl (List.mem_of_getElem? (i := 0) rfl))
  have k44 : Go p e below m W T32 14 #[.val (.ref a1), .val (.ref a2)] [(.ref a1)] := k32.aloadN X32 hx (hb hby d_rmsd_13) rfl rfl
  exact k44.areturnS X32 hx hZ21 own_EL hS21 hk32 e32 (by rw [hh]; exact C32) Bd.returns rfl rfl (hb hby d_rmsd_14) (BodyLoose.notSynchronized Bd) (by rw [e32]; exact ⟨rfl, N32, K32, f33, f35, f36, f37, f38, f39, f40⟩) (by decide) (by decide)

theorem d_rmbv_0 : decode jdk_2055_method_5_code 0 = .ok (.iload_n 0, 1) := by decide +kernel
theorem d_rmbv_1 : decode jdk_2055_method_5_code 1 = .ok (.ifCond .eq 9, 3) := by decide +kernel
theorem d_rmbv_4 : decode jdk_2055_method_5_code 4 = .ok (.getstatic 27, 3) := by decide +kernel
theorem d_rmbv_7 : decode jdk_2055_method_5_code 7 = .ok (.goto 6, 3) := by decide +kernel
theorem d_rmbv_10 : decode jdk_2055_method_5_code 10 = .ok (.getstatic 31, 3) := by decide +kernel
theorem d_rmbv_13 : decode jdk_2055_method_5_code 13 = .ok (.areturn, 1) := by decide +kernel
theorem pn_rmbv : plainName "java/lang/Boolean" = true := by first | (simp [plainName, overriddenIn]; done) | decide +kernel
theorem ef_rmbv (m : MethodId) (p1 : Int32) : entryFrame m #[(.int p1)] 1 = mkF m 0 #[.val (.int p1)] [] := by first | (simp [entryFrame, mkF, argsToLocals, Value.category]; done) | rfl
def Q_rmbv (Z : State) (p1 : Int32) (bt : Addr) (bf : Addr) (h0 : Heap) (n0 : Nat) (v : Option Value) (h : Heap) (L : List Loc) : Prop := ∃ (ro : Addr), v = some (.ref ro) ∧ Fr n0 L ∧ h = h0 ∧ Exa Z h ro "java/lang/Boolean" ∧ Fld Z h ro "java/lang/Boolean" "value" "Z" (.int p1)
set_option maxRecDepth 65536 in
set_option maxHeartbeats 40000000 in
theorem rmbv (l : Launch) (Z : State) (a0 : Array Value) (hw : ∀ d ∈ tables_1, d.before a0 Z = true) (ws : List Jvm.Cond) (p1 : Int32) (bt : Addr) (bf : Addr) (h0 : Heap) (n0 : Nat) (Z0 : n0 ≤ h0.size) (B1 : p1 = 0 ∨ p1 = 1) (O0 : Old Z n0 h0) (St : Sta Z Z.heap "java/lang/Boolean" "TRUE" "Ljava/lang/Boolean;" (.ref bt)) (Et : Exa Z Z.heap bt "java/lang/Boolean") (Ft : Fld Z Z.heap bt "java/lang/Boolean" "value" "Z" (.int (1 : Int32))) (Sf : Sta Z Z.heap "java/lang/Boolean" "FALSE" "Ljava/lang/Boolean;" (.ref bf)) (Ef : Exa Z Z.heap bf "java/lang/Boolean") (Ff : Fld Z Z.heap bf "java/lang/Boolean" "value" "Z" (.int (0 : Int32))) :
    MetFree l (⟨"java/lang/Boolean", "valueOf", "(Z)Ljava/lang/Boolean;"⟩ : MethodName) (head1 (Jvm.Cond.code (⟨"java/lang/Boolean", "valueOf", "(Z)Ljava/lang/Boolean;"⟩ : MethodName) jdk_2055_method_5_code 1 (some (.object "java/lang/Boolean")) :: ws) ({ frames := 0, cells := 0, slots := 0, locals := 0 } : Room)) (fun a U => a = #[(.int p1)] ∧ Z.Warmed39 U.vm ∧ U.heap = h0) (fun _ _ _ _ _ => True) (fun _ U o U' => ∃ v L, o = .returned v ∧ Q_rmbv Z p1 bt bf h0 n0 v U'.heap L ∧ FrameEnd U o U' L ({ frames := 0, cells := 0, slots := 0, locals := 0 } : Room).cells ({ frames := 0, cells := 0, slots := 0, locals := 0 } : Room).slots) := by
  refine MetFree.of_bodySF (plainFor_of_name pn_rmbv) hisR ?_
  intro p e s m args_ below meth c s₁ Bd hml0 hP hK
  obtain ⟨hargs, hZ, hh⟩ := hP
  have hx := Bd.exec
  have hby := Bd.bytes
  have hml : c.maxLocals = 1 := hml0
  have hown : s.vm.findClass "java/lang/Boolean" = some m.cls := findClass_of_methodNamed Bd.named
  have hnm := (name_of_methodNamed Bd.named Bd.method).1
  have X0 : Stand p l e ({ frames := 0, cells := 0, slots := 0, locals := 0 } : Room) s m args_ below meth c s₁ [] 0 0 := Stand.of_body Bd
  have e0 : s₁.heap = h0 := by rw [← hh, Bd.state]; rfl
  have N0 := Fr.nil n0
  have hv : ∀ (i : Nat) {d : Jvm.Cond}, tables_1[i]? = some d → d.before a0 Z = true := fun i d q => hw d (List.mem_of_getElem? q)
  have k0 : Go p e below m (s₁.setTop (entryFrame m args_ 1)) s₁ 0 #[.val (.int p1)] [] := by rw [hargs]; exact fun t kt => castTop (ef_rmbv m p1) kt
  obtain ⟨W, hWW⟩ : ∃ W, W = s₁.setTop (entryFrame m args_ 1) := ⟨_, rfl⟩
  rw [← hWW] at k0 ⊢
  show Done p e below s W (Q_rmbv Z p1 bt bf h0 n0) ({ frames := 0, cells := 0, slots := 0, locals := 0 } : Room).cells ({ frames := 0, cells := 0, slots := 0, locals := 0 } : Room).slots
  rcases B1 with q20 | q21
  ·
    subst p1
    have k22 : Go p e below m W s₁ 10 #[.val (.int (0 : Int32))] [] := (k0.iloadN X0 hx (hb hby d_rmbv_0) rfl).ifYes X0 hx (hb hby d_rmbv_1) (XT.i0_eq_t (by decide)) (by decide) (by decide)
    obtain ⟨T23, X23, e23, k23⟩ := k22.getS X0 hx hZ hown (host := "") (Or.inl (hv 53 rfl)) Via.refl e0 (Sf.ext O0.2) (hb hby d_rmbv_10)
    have k23 : Go p e below m W T23 13 #[.val (.int (0 : Int32))] [(.ref bf)] := k23
    exact k23.areturn X23 hx Bd.returns rfl rfl (hb hby d_rmbv_13) (BodyLoose.notSynchronized Bd) (by rw [e23]; exact ⟨bf, rfl, N0, rfl, (Ef.ext O0.2), (Ff.ext O0.2)⟩) (by decide) (by decide)
  ·
    subst p1
    have k24 : Go p e below m W s₁ 4 #[.val (.int (1 : Int32))] [] := (k0.iloadN X0 hx (hb hby d_rmbv_0) rfl).ifNo X0 hx (hb hby d_rmbv_1) (XT.i0_eq_f (by decide))
    obtain ⟨T25, X25, e25, k25⟩ := k24.getS X0 hx hZ hown (host := "") (Or.inl (hv 114 rfl)) Via.refl e0 (St.ext O0.2) (hb hby d_rmbv_4)
    have k25 : Go p e below m W T25 7 #[.val (.int (1 : Int32))] [(.ref bt)] := k25
    have k26 : Go p e below m W T25 13 #[.val (.int (1 : Int32))] [(.ref bt)] := k25.goto X25 hx (hb hby d_rmbv_7) (by decide) (by decide)
    exact k26.areturn X25 hx Bd.returns rfl rfl (hb hby d_rmbv_13) (BodyLoose.notSynchronized Bd) (by rw [e25]; exact ⟨bt, rfl, N0, rfl, (Et.ext O0.2), (Ft.ext O0.2)⟩) (by decide) (by decide)

theorem d_rmsp_0 : decode prog_5_method_3_code 0 = .ok (.aload_n 0, 1) := by decide +kernel
theorem d_rmsp_1 : decode prog_5_method_3_code 1 = .ok (.iload_n 1, 1) := by decide +kernel
theorem d_rmsp_2 : decode prog_5_method_3_code 2 = .ok (.invokestatic 22, 3) := by decide +kernel
theorem d_rmsp_5 : decode prog_5_method_3_code 5 = .ok (.putfield 28, 3) := by decide +kernel
theorem d_rmsp_8 : decode prog_5_method_3_code 8 = .ok (.aload_n 0, 1) := by decide +kernel
theorem d_rmsp_9 : decode prog_5_method_3_code 9 = .ok (.areturn, 1) := by decide +kernel
theorem pn_rmsp : plainName "com/example/ikat/ikat/core/LinkEdit" = true := by first | (simp [plainName, overriddenIn]; done) | decide +kernel
theorem pd_rmsp_0 : parseMethodDescriptor "(Z)Ljava/lang/Boolean;" = some ⟨[.boolean], (some (.object "java/lang/Boolean"))⟩ := by decide +kernel
theorem ef_rmsp (m : MethodId) (a1 : Addr) (p1 : Int32) : entryFrame m #[(.ref a1), (.int p1)] 2 = mkF m 0 #[.val (.ref a1), .val (.int p1)] [] := by first | (simp [entryFrame, mkF, argsToLocals, Value.category]; done) | rfl
def Q_rmsp (Z : State) (a1 : Addr) (p1 : Int32) (bt : Addr) (bf : Addr) (u0 : Value) (u1 : Value) (u2 : Value) (u3 : Value) (u4 : Value) (u5 : Value) (h0 : Heap) (n0 : Nat) (v : Option Value) (h : Heap) (L : List Loc) : Prop := ∃ (rb : Addr), v = some (.ref a1) ∧ Fr n0 L ∧ Keep h0 h [a1] ∧ Exa Z h a1 "com/example/ikat/ikat/core/LinkEdit" ∧ Fld Z h a1 "com/example/ikat/ikat/core/LinkEdit" "destination" "Ljava/lang/String;" u0 ∧ Fld Z h a1 "com/example/ikat/ikat/core/LinkEdit" "paused" "Ljava/lang/Boolean;" (.ref rb) ∧ Fld Z h a1 "com/example/ikat/ikat/core/LinkEdit" "changesExpiry" "Z" u2 ∧ Fld Z h a1 "com/example/ikat/ikat/core/LinkEdit" "expiresAt" "Ljava/time/Instant;" u3 ∧ Fld Z h a1 "com/example/ikat/ikat/core/LinkEdit" "changesMaxVisits" "Z" u4 ∧ Fld Z h a1 "com/example/ikat/ikat/core/LinkEdit" "maxVisits" "Ljava/lang/Integer;" u5 ∧ Exa Z h rb "java/lang/Boolean" ∧ Fld Z h rb "java/lang/Boolean" "value" "Z" (.int p1)
set_option maxRecDepth 65536 in
set_option maxHeartbeats 40000000 in
theorem rmsp (l : Launch) (Z : State) (a0 : Array Value) (hw : ∀ d ∈ tables_1, d.before a0 Z = true) (ws : List Jvm.Cond) (a1 : Addr) (p1 : Int32) (bt : Addr) (bf : Addr) (u0 : Value) (u1 : Value) (u2 : Value) (u3 : Value) (u4 : Value) (u5 : Value) (h0 : Heap) (n0 : Nat) (Z0 : n0 ≤ h0.size) (B1 : p1 = 0 ∨ p1 = 1) (O0 : Old Z n0 h0) (St : Sta Z Z.heap "java/lang/Boolean" "TRUE" "Ljava/lang/Boolean;" (.ref bt)) (Et : Exa Z Z.heap bt "java/lang/Boolean") (Ft : Fld Z Z.heap bt "java/lang/Boolean" "value" "Z" (.int (1 : Int32))) (Sf : Sta Z Z.heap "java/lang/Boolean" "FALSE" "Ljava/lang/Boolean;" (.ref bf)) (Ef : Exa Z Z.heap bf "java/lang/Boolean") (Ff : Fld Z Z.heap bf "java/lang/Boolean" "value" "Z" (.int (0 : Int32))) (E1 : Exa Z h0 a1 "com/example/ikat/ikat/core/LinkEdit") (G1 : n0 ≤ a1) (F0 : Fld Z h0 a1 "com/example/ikat/ikat/core/LinkEdit" "destination" "Ljava/lang/String;" u0) (F1 : Fld Z h0 a1 "com/example/ikat/ikat/core/LinkEdit" "paused" "Ljava/lang/Boolean;" u1) (F2 : Fld Z h0 a1 "com/example/ikat/ikat/core/LinkEdit" "changesExpiry" "Z" u2) (F3 : Fld Z h0 a1 "com/example/ikat/ikat/core/LinkEdit" "expiresAt" "Ljava/time/Instant;" u3) (F4 : Fld Z h0 a1 "com/example/ikat/ikat/core/LinkEdit" "changesMaxVisits" "Z" u4) (F5 : Fld Z h0 a1 "com/example/ikat/ikat/core/LinkEdit" "maxVisits" "Ljava/lang/Integer;" u5) :
    MetFree l (⟨"com/example/ikat/ikat/core/LinkEdit", "paused", "(Z)Lcom/example/ikat/ikat/core/LinkEdit;"⟩ : MethodName) (head1 (Jvm.Cond.code (⟨"com/example/ikat/ikat/core/LinkEdit", "paused", "(Z)Lcom/example/ikat/ikat/core/LinkEdit;"⟩ : MethodName) prog_5_method_3_code 2 (some (.object "com/example/ikat/ikat/core/LinkEdit")) :: ws) ({ frames := 1, cells := 0, slots := 0, locals := 13 } : Room)) (fun a U => a = #[(.ref a1), (.int p1)] ∧ Z.Warmed39 U.vm ∧ U.heap = h0) (fun _ _ _ _ _ => True) (fun _ U o U' => ∃ v L, o = .returned v ∧ Q_rmsp Z a1 p1 bt bf u0 u1 u2 u3 u4 u5 h0 n0 v U'.heap L ∧ FrameEnd U o U' L ({ frames := 1, cells := 0, slots := 0, locals := 13 } : Room).cells ({ frames := 1, cells := 0, slots := 0, locals := 13 } : Room).slots) := by
  refine MetFree.of_bodySF (plainFor_of_name pn_rmsp) hisR ?_
  intro p e s m args_ below meth c s₁ Bd hml0 hP hK
  obtain ⟨hargs, hZ, hh⟩ := hP
  have hx := Bd.exec
  have hby := Bd.bytes
  have hml : c.maxLocals = 2 := hml0
  have hown : s.vm.findClass "com/example/ikat/ikat/core/LinkEdit" = some m.cls := findClass_of_methodNamed Bd.named
  have hnm := (name_of_methodNamed Bd.named Bd.method).1
  have X0 : Stand p l e ({ frames := 1, cells := 0, slots := 0, locals := 13 } : Room) s m args_ below meth c s₁ [] 0 0 := Stand.of_body Bd
  have e0 : s₁.heap = h0 := by rw [← hh, Bd.state]; rfl
  have N0 := Fr.nil n0
  have hv : ∀ (i : Nat) {d : Jvm.Cond}, tables_1[i]? = some d → d.before a0 Z = true := fun i d q => hw d (List.mem_of_getElem? q)
  have K0 : Keep h0 h0 [a1] := Keep.refl _ _
  have k0 : Go p e below m (s₁.setTop (entryFrame m args_ 2)) s₁ 0 #[.val (.ref a1), .val (.int p1)] [] := by rw [hargs]; exact fun t kt => castTop (ef_rmsp m a1 p1) kt
  obtain ⟨W, hWW⟩ : ∃ W, W = s₁.setTop (entryFrame m args_ 2) := ⟨_, rfl⟩
  rw [← hWW] at k0 ⊢
  show Done p e below s W (Q_rmsp Z a1 p1 bt bf u0 u1 u2 u3 u4 u5 h0 n0) ({ frames := 1, cells := 0, slots := 0, locals := 13 } : Room).cells ({ frames := 1, cells := 0, slots := 0, locals := 13 } : Room).slots
  have k20 : Go p e below m W s₁ 2 #[.val (.ref a1), .val (.int p1)] [(.int p1), (.ref a1)] := (k0.aloadN X0 hx (hb hby d_rmsp_0) rfl rfl).iloadN X0 hx (hb hby d_rmsp_1) rfl
  obtain ⟨T21, v21, L21, X21, Q21, k21⟩ := k20.stat (y := (⟨"java/lang/Boolean", "valueOf", "(Z)Ljava/lang/Boolean;"⟩ : MethodName)) (Wd := 1) (cells' := 0) (slots' := 0) (argsL := [(.int p1)]) (rest := [(.ref a1)]) X0 hx hZ hown (by rw [hml]; rfl) (hv 49 rfl) (hv 50 rfl) (hv 52 rfl) (hv 51 rfl) (hb hby d_rmsp_2) (by decide) (rmbv l Z a0 hw [] p1 bt bf h0 n0 Z0 B1 O0 St Et Ft Sf Ef Ff) e0 rfl rfl pd_rmsp_0 rfl (Nat.le_of_eq rfl) (by decide) (by decide) rfl rfl (by decide) (by decide)
  obtain ⟨ro_21, rfl, Nq21, e21q, q21_0, q21_1⟩ := Q21
  have N21 := Fr.app N0 Nq21
  rw [e21q] at q21_0 q21_1
  have e21 : T21.heap = h0 := e21q
  have k21 : Go p e below m W T21 5 #[.val (.ref a1), .val (.int p1)] [(.ref ro_21), (.ref a1)] := k21
  obtain ⟨T22, h22, l22, X22, e22, W22, N22, k22⟩ := k21.putF X21 hx hZ hown (host := "") (Or.inl (hv 54 rfl)) Via.refl e21 F1 E1 (Or.inl (hv 55 rfl)) (hv 38 rfl) (ty := (.object "java/lang/Boolean")) (by decide) rfl rfl N21 G1 (hb hby d_rmsp_5)
  have k22 : Go p e below m W T22 8 #[.val (.ref a1), .val (.int p1)] [] := k22
  have Z22 : n0 ≤ h22.size := (Wr.size W22).symm ▸ Z0
  have f23 := O0.wr W22 G1
  have f24 := E1.wr W22
  have f25 := F0.other W22 (Or.inr (slot_ne (Or.inl (hv 68 rfl)) (Or.inl (hv 55 rfl)) (by decide) (by decide : parseFieldDescriptor "Ljava/lang/String;" = some (.object "java/lang/String")) (by decide : parseFieldDescriptor "Ljava/lang/Boolean;" = some (.object "java/lang/Boolean"))))
  have f26 := F1.same W22
  have f27 := F2.other W22 (Or.inr (slot_ne (Or.inl (hv 92 rfl)) (Or.inl (hv 55 rfl)) (by decide) (by decide : parseFieldDescriptor "Z" = some .boolean) (by decide : parseFieldDescriptor "Ljava/lang/Boolean;" = some (.object "java/lang/Boolean"))))
  have f28 := F3.other W22 (Or.inr (slot_ne (Or.inl (hv 99 rfl)) (Or.inl (hv 55 rfl)) (by decide) (by decide : parseFieldDescriptor "Ljava/time/Instant;" = some (.object "java/time/Instant")) (by decide : parseFieldDescriptor "Ljava/lang/Boolean;" = some (.object "java/lang/Boolean"))))
  have f29 := F4.other W22 (Or.inr (slot_ne (Or.inl (hv 106 rfl)) (Or.inl (hv 55 rfl)) (by decide) (by decide : parseFieldDescriptor "Z" = some .boolean) (by decide : parseFieldDescriptor "Ljava/lang/Boolean;" = some (.object "java/lang/Boolean"))))
  have f30 := F5.other W22 (Or.inr (slot_ne (Or.inl (hv 113 rfl)) (Or.inl (hv 55 rfl)) (by decide) (by decide : parseFieldDescriptor "Ljava/lang/Integer;" = some (.object "java/lang/Integer")) (by decide : parseFieldDescriptor "Ljava/lang/Boolean;" = some (.object "java/lang/Boolean"))))
  have f31 := q21_0.wr W22
  have f32 := q21_1.other W22 (Or.inl (ne_exa q21_0 E1 (by decide)))
  have K22 : Keep h0 h22 [a1] := K0.wr W22 (Or.inl (List.mem_of_getElem? (i := 0) rfl))
  have k33 : Go p e below m W T22 9 #[.val (.ref a1), .val (.int p1)] [(.ref a1)] := k22.aloadN X22 hx (hb hby d_rmsp_8) rfl rfl
  exact k33.areturn X22 hx Bd.returns rfl rfl (hb hby d_rmsp_9) (BodyLoose.notSynchronized Bd) (by rw [e22]; exact ⟨ro_21, rfl, N22, K22, f24, f25, f26, f27, f28, f29, f30, f31, f32⟩) (by decide) (by decide)

theorem d_rmg0_0 : decode prog_5_method_6_code 0 = .ok (.aload_n 0, 1) := by decide +kernel
theorem d_rmg0_1 : decode prog_5_method_6_code 1 = .ok (.getfield 17, 3) := by decide +kernel
theorem d_rmg0_4 : decode prog_5_method_6_code 4 = .ok (.areturn, 1) := by decide +kernel
theorem pn_rmg0 : plainName "com/example/ikat/ikat/core/LinkEdit" = true := by first | (simp [plainName, overriddenIn]; done) | decide +kernel
theorem ef_rmg0 (m : MethodId) (a1 : Addr) : entryFrame m #[(.ref a1)] 1 = mkF m 0 #[.val (.ref a1)] [] := by first | (simp [entryFrame, mkF, argsToLocals, Value.category]; done) | rfl
def Q_rmg0 (Z : State) (a1 : Addr) (p2 : Value) (h0 : Heap) (n0 : Nat) (v : Option Value) (h : Heap) (L : List Loc) : Prop := v = some p2 ∧ Fr n0 L ∧ h = h0
set_option maxRecDepth 65536 in
set_option maxHeartbeats 40000000 in
theorem rmg0 (l : Launch) (Z : State) (a0 : Array Value) (hw : ∀ d ∈ tables_1, d.before a0 Z = true) (ws : List Jvm.Cond) (a1 : Addr) (p2 : Value) (h0 : Heap) (n0 : Nat) (Z0 : n0 ≤ h0.size) (hr2 : p2.isRef = true) (F1 : Fld Z h0 a1 "com/example/ikat/ikat/core/LinkEdit" "destination" "Ljava/lang/String;" p2) :
    MetFree l (⟨"com/example/ikat/ikat/core/LinkEdit", "destination", "()Ljava/lang/String;"⟩ : MethodName) (head1 (Jvm.Cond.code (⟨"com/example/ikat/ikat/core/LinkEdit", "destination", "()Ljava/lang/String;"⟩ : MethodName) prog_5_method_6_code 1 (some (.object "java/lang/String")) :: ws) ({ frames := 0, cells := 0, slots := 0, locals := 0 } : Room)) (fun a U => a = #[(.ref a1)] ∧ Z.Warmed39 U.vm ∧ U.heap = h0) (fun _ _ _ _ _ => True) (fun _ U o U' => ∃ v L, o = .returned v ∧ Q_rmg0 Z a1 p2 h0 n0 v U'.heap L ∧ FrameEnd U o U' L ({ frames := 0, cells := 0, slots := 0, locals := 0 } : Room).cells ({ frames := 0, cells := 0, slots := 0, locals := 0 } : Room).slots) := by
  refine MetFree.of_bodySF (plainFor_of_name pn_rmg0) hisR ?_
  intro p e s m args_ below meth c s₁ Bd hml0 hP hK
  obtain ⟨hargs, hZ, hh⟩ := hP
  have hx := Bd.exec
  have hby := Bd.bytes
  have hml : c.maxLocals = 1 := hml0
  have hown : s.vm.findClass "com/example/ikat/ikat/core/LinkEdit" = some m.cls := findClass_of_methodNamed Bd.named
  have hnm := (name_of_methodNamed Bd.named Bd.method).1
  have X0 : Stand p l e ({ frames := 0, cells := 0, slots := 0, locals := 0 } : Room) s m args_ below meth c s₁ [] 0 0 := Stand.of_body Bd
  have e0 : s₁.heap = h0 := by rw [← hh, Bd.state]; rfl
  have N0 := Fr.nil n0
  have hv : ∀ (i : Nat) {d : Jvm.Cond}, tables_1[i]? = some d → d.before a0 Z = true := fun i d q => hw d (List.mem_of_getElem? q)
  have k0 : Go p e below m (s₁.setTop (entryFrame m args_ 1)) s₁ 0 #[.val (.ref a1)] [] := by rw [hargs]; exact fun t kt => castTop (ef_rmg0 m a1) kt
  obtain ⟨W, hWW⟩ : ∃ W, W = s₁.setTop (entryFrame m args_ 1) := ⟨_, rfl⟩
  rw [← hWW] at k0 ⊢
  show Done p e below s W (Q_rmg0 Z a1 p2 h0 n0) ({ frames := 0, cells := 0, slots := 0, locals := 0 } : Room).cells ({ frames := 0, cells := 0, slots := 0, locals := 0 } : Room).slots
  have k20 : Go p e below m W s₁ 1 #[.val (.ref a1)] [(.ref a1)] := k0.aloadN X0 hx (hb hby d_rmg0_0) rfl rfl
  obtain ⟨T21, X21, e21, k21⟩ := k20.getF X0 hx hZ hown (host := "") (Or.inl (hv 67 rfl)) Via.refl e0 F1 (hb hby d_rmg0_1)
  have k21 : Go p e below m W T21 4 #[.val (.ref a1)] [p2] := k21
  exact k21.areturn X21 hx Bd.returns rfl hr2 (hb hby d_rmg0_4) (BodyLoose.notSynchronized Bd) (by rw [e21]; exact ⟨rfl, N0, rfl⟩) (by decide) (by decide)

theorem d_rmg1_0 : decode prog_5_method_7_code 0 = .ok (.aload_n 0, 1) := by decide +kernel
theorem d_rmg1_1 : decode prog_5_method_7_code 1 = .ok (.getfield 28, 3) := by decide +kernel
theorem d_rmg1_4 : decode prog_5_method_7_code 4 = .ok (.areturn, 1) := by decide +kernel
theorem pn_rmg1 : plainName "com/example/ikat/ikat/core/LinkEdit" = true := by first | (simp [plainName, overriddenIn]; done) | decide +kernel
theorem ef_rmg1 (m : MethodId) (a1 : Addr) : entryFrame m #[(.ref a1)] 1 = mkF m 0 #[.val (.ref a1)] [] := by first | (simp [entryFrame, mkF, argsToLocals, Value.category]; done) | rfl
def Q_rmg1 (Z : State) (a1 : Addr) (p2 : Value) (h0 : Heap) (n0 : Nat) (v : Option Value) (h : Heap) (L : List Loc) : Prop := v = some p2 ∧ Fr n0 L ∧ h = h0
set_option maxRecDepth 65536 in
set_option maxHeartbeats 40000000 in
theorem rmg1 (l : Launch) (Z : State) (a0 : Array Value) (hw : ∀ d ∈ tables_1, d.before a0 Z = true) (ws : List Jvm.Cond) (a1 : Addr) (p2 : Value) (h0 : Heap) (n0 : Nat) (Z0 : n0 ≤ h0.size) (hr2 : p2.isRef = true) (F1 : Fld Z h0 a1 "com/example/ikat/ikat/core/LinkEdit" "paused" "Ljava/lang/Boolean;" p2) :
    MetFree l (⟨"com/example/ikat/ikat/core/LinkEdit", "paused", "()Ljava/lang/Boolean;"⟩ : MethodName) (head1 (Jvm.Cond.code (⟨"com/example/ikat/ikat/core/LinkEdit", "paused", "()Ljava/lang/Boolean;"⟩ : MethodName) prog_5_method_7_code 1 (some (.object "java/lang/Boolean")) :: ws) ({ frames := 0, cells := 0, slots := 0, locals := 0 } : Room)) (fun a U => a = #[(.ref a1)] ∧ Z.Warmed39 U.vm ∧ U.heap = h0) (fun _ _ _ _ _ => True) (fun _ U o U' => ∃ v L, o = .returned v ∧ Q_rmg1 Z a1 p2 h0 n0 v U'.heap L ∧ FrameEnd U o U' L ({ frames := 0, cells := 0, slots := 0, locals := 0 } : Room).cells ({ frames := 0, cells := 0, slots := 0, locals := 0 } : Room).slots) := by
  refine MetFree.of_bodySF (plainFor_of_name pn_rmg1) hisR ?_
  intro p e s m args_ below meth c s₁ Bd hml0 hP hK
  obtain ⟨hargs, hZ, hh⟩ := hP
  have hx := Bd.exec
  have hby := Bd.bytes
  have hml : c.maxLocals = 1 := hml0
  have hown : s.vm.findClass "com/example/ikat/ikat/core/LinkEdit" = some m.cls := findClass_of_methodNamed Bd.named
  have hnm := (name_of_methodNamed Bd.named Bd.method).1
  have X0 : Stand p l e ({ frames := 0, cells := 0, slots := 0, locals := 0 } : Room) s m args_ below meth c s₁ [] 0 0 := Stand.of_body Bd
  have e0 : s₁.heap = h0 := by rw [← hh, Bd.state]; rfl
  have N0 := Fr.nil n0
  have hv : ∀ (i : Nat) {d : Jvm.Cond}, tables_1[i]? = some d → d.before a0 Z = true := fun i d q => hw d (List.mem_of_getElem? q)
  have k0 : Go p e below m (s₁.setTop (entryFrame m args_ 1)) s₁ 0 #[.val (.ref a1)] [] := by rw [hargs]; exact fun t kt => castTop (ef_rmg1 m a1) kt
  obtain ⟨W, hWW⟩ : ∃ W, W = s₁.setTop (entryFrame m args_ 1) := ⟨_, rfl⟩
  rw [← hWW] at k0 ⊢
  show Done p e below s W (Q_rmg1 Z a1 p2 h0 n0) ({ frames := 0, cells := 0, slots := 0, locals := 0 } : Room).cells ({ frames := 0, cells := 0, slots := 0, locals := 0 } : Room).slots
  have k20 : Go p e below m W s₁ 1 #[.val (.ref a1)] [(.ref a1)] := k0.aloadN X0 hx (hb hby d_rmg1_0) rfl rfl
  obtain ⟨T21, X21, e21, k21⟩ := k20.getF X0 hx hZ hown (host := "") (Or.inl (hv 54 rfl)) Via.refl e0 F1 (hb hby d_rmg1_1)
  have k21 : Go p e below m W T21 4 #[.val (.ref a1)] [p2] := k21
  exact k21.areturn X21 hx Bd.returns rfl hr2 (hb hby d_rmg1_4) (BodyLoose.notSynchronized Bd) (by rw [e21]; exact ⟨rfl, N0, rfl⟩) (by decide) (by decide)

theorem d_rmg2_0 : decode prog_5_method_8_code 0 = .ok (.aload_n 0, 1) := by decide +kernel
theorem d_rmg2_1 : decode prog_5_method_8_code 1 = .ok (.getfield 32, 3) := by decide +kernel
theorem d_rmg2_4 : decode prog_5_method_8_code 4 = .ok (.ireturn, 1) := by decide +kernel
theorem pn_rmg2 : plainName "com/example/ikat/ikat/core/LinkEdit" = true := by first | (simp [plainName, overriddenIn]; done) | decide +kernel
theorem ef_rmg2 (m : MethodId) (a1 : Addr) : entryFrame m #[(.ref a1)] 1 = mkF m 0 #[.val (.ref a1)] [] := by first | (simp [entryFrame, mkF, argsToLocals, Value.category]; done) | rfl
def Q_rmg2 (Z : State) (a1 : Addr) (w2 : Int32) (h0 : Heap) (n0 : Nat) (v : Option Value) (h : Heap) (L : List Loc) : Prop := v = some (.int w2) ∧ Fr n0 L ∧ h = h0
set_option maxRecDepth 65536 in
set_option maxHeartbeats 40000000 in
theorem rmg2 (l : Launch) (Z : State) (a0 : Array Value) (hw : ∀ d ∈ tables_1, d.before a0 Z = true) (ws : List Jvm.Cond) (a1 : Addr) (w2 : Int32) (h0 : Heap) (n0 : Nat) (Z0 : n0 ≤ h0.size) (B2 : w2 = 0 ∨ w2 = 1) (F1 : Fld Z h0 a1 "com/example/ikat/ikat/core/LinkEdit" "changesExpiry" "Z" (.int w2)) :
    MetFree l (⟨"com/example/ikat/ikat/core/LinkEdit", "changesExpiry", "()Z"⟩ : MethodName) (head1 (Jvm.Cond.code (⟨"com/example/ikat/ikat/core/LinkEdit", "changesExpiry", "()Z"⟩ : MethodName) prog_5_method_8_code 1 (some .boolean) :: ws) ({ frames := 0, cells := 0, slots := 0, locals := 0 } : Room)) (fun a U => a = #[(.ref a1)] ∧ Z.Warmed39 U.vm ∧ U.heap = h0) (fun _ _ _ _ _ => True) (fun _ U o U' => ∃ v L, o = .returned v ∧ Q_rmg2 Z a1 w2 h0 n0 v U'.heap L ∧ FrameEnd U o U' L ({ frames := 0, cells := 0, slots := 0, locals := 0 } : Room).cells ({ frames := 0, cells := 0, slots := 0, locals := 0 } : Room).slots) := by
  refine MetFree.of_bodySF (plainFor_of_name pn_rmg2) hisR ?_
  intro p e s m args_ below meth c s₁ Bd hml0 hP hK
  obtain ⟨hargs, hZ, hh⟩ := hP
  have hx := Bd.exec
  have hby := Bd.bytes
  have hml : c.maxLocals = 1 := hml0
  have hown : s.vm.findClass "com/example/ikat/ikat/core/LinkEdit" = some m.cls := findClass_of_methodNamed Bd.named
  have hnm := (name_of_methodNamed Bd.named Bd.method).1
  have X0 : Stand p l e ({ frames := 0, cells := 0, slots := 0, locals := 0 } : Room) s m args_ below meth c s₁ [] 0 0 := Stand.of_body Bd
  have e0 : s₁.heap = h0 := by rw [← hh, Bd.state]; rfl
  have N0 := Fr.nil n0
  have hv : ∀ (i : Nat) {d : Jvm.Cond}, tables_1[i]? = some d → d.before a0 Z = true := fun i d q => hw d (List.mem_of_getElem? q)
  have k0 : Go p e below m (s₁.setTop (entryFrame m args_ 1)) s₁ 0 #[.val (.ref a1)] [] := by rw [hargs]; exact fun t kt => castTop (ef_rmg2 m a1) kt
  obtain ⟨W, hWW⟩ : ∃ W, W = s₁.setTop (entryFrame m args_ 1) := ⟨_, rfl⟩
  rw [← hWW] at k0 ⊢
  show Done p e below s W (Q_rmg2 Z a1 w2 h0 n0) ({ frames := 0, cells := 0, slots := 0, locals := 0 } : Room).cells ({ frames := 0, cells := 0, slots := 0, locals := 0 } : Room).slots
  have k20 : Go p e below m W s₁ 1 #[.val (.ref a1)] [(.ref a1)] := k0.aloadN X0 hx (hb hby d_rmg2_0) rfl rfl
  obtain ⟨T21, X21, e21, k21⟩ := k20.getF X0 hx hZ hown (host := "") (Or.inl (hv 91 rfl)) Via.refl e0 F1 (hb hby d_rmg2_1)
  have k21 : Go p e below m W T21 4 #[.val (.ref a1)] [(.int w2)] := k21
  exact k21.ireturnN X21 hx (t := .boolean) Bd.returns (by simp) (own_nz B2).2.2 (hb hby d_rmg2_4) (BodyLoose.notSynchronized Bd) (by rw [e21]; exact ⟨rfl, N0, rfl⟩) (by decide) (by decide)

theorem d_rmg3_0 : decode prog_5_method_9_code 0 = .ok (.aload_n 0, 1) := by decide +kernel
theorem d_rmg3_1 : decode prog_5_method_9_code 1 = .ok (.getfield 36, 3) := by decide +kernel
theorem d_rmg3_4 : decode prog_5_method_9_code 4 = .ok (.areturn, 1) := by decide +kernel
theorem pn_rmg3 : plainName "com/example/ikat/ikat/core/LinkEdit" = true := by first | (simp [plainName, overriddenIn]; done) | decide +kernel
theorem ef_rmg3 (m : MethodId) (a1 : Addr) : entryFrame m #[(.ref a1)] 1 = mkF m 0 #[.val (.ref a1)] [] := by first | (simp [entryFrame, mkF, argsToLocals, Value.category]; done) | rfl
def Q_rmg3 (Z : State) (a1 : Addr) (p2 : Value) (h0 : Heap) (n0 : Nat) (v : Option Value) (h : Heap) (L : List Loc) : Prop := v = some p2 ∧ Fr n0 L ∧ h = h0
set_option maxRecDepth 65536 in
set_option maxHeartbeats 40000000 in
theorem rmg3 (l : Launch) (Z : State) (a0 : Array Value) (hw : ∀ d ∈ tables_1, d.before a0 Z = true) (ws : List Jvm.Cond) (a1 : Addr) (p2 : Value) (h0 : Heap) (n0 : Nat) (Z0 : n0 ≤ h0.size) (hr2 : p2.isRef = true) (F1 : Fld Z h0 a1 "com/example/ikat/ikat/core/LinkEdit" "expiresAt" "Ljava/time/Instant;" p2) :
    MetFree l (⟨"com/example/ikat/ikat/core/LinkEdit", "expiresAt", "()Ljava/time/Instant;"⟩ : MethodName) (head1 (Jvm.Cond.code (⟨"com/example/ikat/ikat/core/LinkEdit", "expiresAt", "()Ljava/time/Instant;"⟩ : MethodName) prog_5_method_9_code 1 (some (.object "java/time/Instant")) :: ws) ({ frames := 0, cells := 0, slots := 0, locals := 0 } : Room)) (fun a U => a = #[(.ref a1)] ∧ Z.Warmed39 U.vm ∧ U.heap = h0) (fun _ _ _ _ _ => True) (fun _ U o U' => ∃ v L, o = .returned v ∧ Q_rmg3 Z a1 p2 h0 n0 v U'.heap L ∧ FrameEnd U o U' L ({ frames := 0, cells := 0, slots := 0, locals := 0 } : Room).cells ({ frames := 0, cells := 0, slots := 0, locals := 0 } : Room).slots) := by
  refine MetFree.of_bodySF (plainFor_of_name pn_rmg3) hisR ?_
  intro p e s m args_ below meth c s₁ Bd hml0 hP hK
  obtain ⟨hargs, hZ, hh⟩ := hP
  have hx := Bd.exec
  have hby := Bd.bytes
  have hml : c.maxLocals = 1 := hml0
  have hown : s.vm.findClass "com/example/ikat/ikat/core/LinkEdit" = some m.cls := findClass_of_methodNamed Bd.named
  have hnm := (name_of_methodNamed Bd.named Bd.method).1
  have X0 : Stand p l e ({ frames := 0, cells := 0, slots := 0, locals := 0 } : Room) s m args_ below meth c s₁ [] 0 0 := Stand.of_body Bd
  have e0 : s₁.heap = h0 := by rw [← hh, Bd.state]; rfl
  have N0 := Fr.nil n0
  have hv : ∀ (i : Nat) {d : Jvm.Cond}, tables_1[i]? = some d → d.before a0 Z = true := fun i d q => hw d (List.mem_of_getElem? q)
  have k0 : Go p e below m (s₁.setTop (entryFrame m args_ 1)) s₁ 0 #[.val (.ref a1)] [] := by rw [hargs]; exact fun t kt => castTop (ef_rmg3 m a1) kt
  obtain ⟨W, hWW⟩ : ∃ W, W = s₁.setTop (entryFrame m args_ 1) := ⟨_, rfl⟩
  rw [← hWW] at k0 ⊢
  show Done p e below s W (Q_rmg3 Z a1 p2 h0 n0) ({ frames := 0, cells := 0, slots := 0, locals := 0 } : Room).cells ({ frames := 0, cells := 0, slots := 0, locals := 0 } : Room).slots
  have k20 : Go p e below m W s₁ 1 #[.val (.ref a1)] [(.ref a1)] := k0.aloadN X0 hx (hb hby d_rmg3_0) rfl rfl
  obtain ⟨T21, X21, e21, k21⟩ := k20.getF X0 hx hZ hown (host := "") (Or.inl (hv 98 rfl)) Via.refl e0 F1 (hb hby d_rmg3_1)
  have k21 : Go p e below m W T21 4 #[.val (.ref a1)] [p2] := k21
  exact k21.areturn X21 hx Bd.returns rfl hr2 (hb hby d_rmg3_4) (BodyLoose.notSynchronized Bd) (by rw [e21]; exact ⟨rfl, N0, rfl⟩) (by decide) (by decide)

theorem d_rmg4_0 : decode prog_5_method_10_code 0 = .ok (.aload_n 0, 1) := by decide +kernel
theorem d_rmg4_1 : decode prog_5_method_10_code 1 = .ok (.getfield 40, 3) := by decide +kernel
theorem d_rmg4_4 : decode prog_5_method_10_code 4 = .ok (.ireturn, 1) := by decide +kernel
theorem pn_rmg4 : plainName "com/example/ikat/ikat/core/LinkEdit" = true := by first | (simp [plainName, overriddenIn]; done) | decide +kernel
theorem ef_rmg4 (m : MethodId) (a1 : Addr) : entryFrame m #[(.ref a1)] 1 = mkF m 0 #[.val (.ref a1)] [] := by first | (simp [entryFrame, mkF, argsToLocals, Value.category]; done) | rfl
def Q_rmg4 (Z : State) (a1 : Addr) (w2 : Int32) (h0 : Heap) (n0 : Nat) (v : Option Value) (h : Heap) (L : List Loc) : Prop := v = some (.int w2) ∧ Fr n0 L ∧ h = h0
set_option maxRecDepth 65536 in
set_option maxHeartbeats 40000000 in
theorem rmg4 (l : Launch) (Z : State) (a0 : Array Value) (hw : ∀ d ∈ tables_1, d.before a0 Z = true) (ws : List Jvm.Cond) (a1 : Addr) (w2 : Int32) (h0 : Heap) (n0 : Nat) (Z0 : n0 ≤ h0.size) (B2 : w2 = 0 ∨ w2 = 1) (F1 : Fld Z h0 a1 "com/example/ikat/ikat/core/LinkEdit" "changesMaxVisits" "Z" (.int w2)) :
    MetFree l (⟨"com/example/ikat/ikat/core/LinkEdit", "changesMaxVisits", "()Z"⟩ : MethodName) (head1 (Jvm.Cond.code (⟨"com/example/ikat/ikat/core/LinkEdit", "changesMaxVisits", "()Z"⟩ : MethodName) prog_5_method_10_code 1 (some .boolean) :: ws) ({ frames := 0, cells := 0, slots := 0, locals := 0 } : Room)) (fun a U => a = #[(.ref a1)] ∧ Z.Warmed39 U.vm ∧ U.heap = h0) (fun _ _ _ _ _ => True) (fun _ U o U' => ∃ v L, o = .returned v ∧ Q_rmg4 Z a1 w2 h0 n0 v U'.heap L ∧ FrameEnd U o U' L ({ frames := 0, cells := 0, slots := 0, locals := 0 } : Room).cells ({ frames := 0, cells := 0, slots := 0, locals := 0 } : Room).slots) := by
  refine MetFree.of_bodySF (plainFor_of_name pn_rmg4) hisR ?_
  intro p e s m args_ below meth c s₁ Bd hml0 hP hK
  obtain ⟨hargs, hZ, hh⟩ := hP
  have hx := Bd.exec
  have hby := Bd.bytes
  have hml : c.maxLocals = 1 := hml0
  have hown : s.vm.findClass "com/example/ikat/ikat/core/LinkEdit" = some m.cls := findClass_of_methodNamed Bd.named
  have hnm := (name_of_methodNamed Bd.named Bd.method).1
  have X0 : Stand p l e ({ frames := 0, cells := 0, slots := 0, locals := 0 } : Room) s m args_ below meth c s₁ [] 0 0 := Stand.of_body Bd
  have e0 : s₁.heap = h0 := by rw [← hh, Bd.state]; rfl
  have N0 := Fr.nil n0
  have hv : ∀ (i : Nat) {d : Jvm.Cond}, tables_1[i]? = some d → d.before a0 Z = true := fun i d q => hw d (List.mem_of_getElem? q)
  have k0 : Go p e below m (s₁.setTop (entryFrame m args_ 1)) s₁ 0 #[.val (.ref a1)] [] := by rw [hargs]; exact fun t kt => castTop (ef_rmg4 m a1) kt
  obtain ⟨W, hWW⟩ : ∃ W, W = s₁.setTop (entryFrame m args_ 1) := ⟨_, rfl⟩
  rw [← hWW] at k0 ⊢
  show Done p e below s W (Q_rmg4 Z a1 w2 h0 n0) ({ frames := 0, cells := 0, slots := 0, locals := 0 } : Room).cells ({ frames := 0, cells := 0, slots := 0, locals := 0 } : Room).slots
  have k20 : Go p e below m W s₁ 1 #[.val (.ref a1)] [(.ref a1)] := k0.aloadN X0 hx (hb hby d_rmg4_0) rfl rfl
  obtain ⟨T21, X21, e21, k21⟩ := k20.getF X0 hx hZ hown (host := "") (Or.inl (hv 105 rfl)) Via.refl e0 F1 (hb hby d_rmg4_1)
  have k21 : Go p e below m W T21 4 #[.val (.ref a1)] [(.int w2)] := k21
  exact k21.ireturnN X21 hx (t := .boolean) Bd.returns (by simp) (own_nz B2).2.2 (hb hby d_rmg4_4) (BodyLoose.notSynchronized Bd) (by rw [e21]; exact ⟨rfl, N0, rfl⟩) (by decide) (by decide)

theorem d_rmg5_0 : decode prog_5_method_11_code 0 = .ok (.aload_n 0, 1) := by decide +kernel
theorem d_rmg5_1 : decode prog_5_method_11_code 1 = .ok (.getfield 43, 3) := by decide +kernel
theorem d_rmg5_4 : decode prog_5_method_11_code 4 = .ok (.areturn, 1) := by decide +kernel
theorem pn_rmg5 : plainName "com/example/ikat/ikat/core/LinkEdit" = true := by first | (simp [plainName, overriddenIn]; done) | decide +kernel
theorem ef_rmg5 (m : MethodId) (a1 : Addr) : entryFrame m #[(.ref a1)] 1 = mkF m 0 #[.val (.ref a1)] [] := by first | (simp [entryFrame, mkF, argsToLocals, Value.category]; done) | rfl
def Q_rmg5 (Z : State) (a1 : Addr) (p2 : Value) (h0 : Heap) (n0 : Nat) (v : Option Value) (h : Heap) (L : List Loc) : Prop := v = some p2 ∧ Fr n0 L ∧ h = h0
set_option maxRecDepth 65536 in
set_option maxHeartbeats 40000000 in
theorem rmg5 (l : Launch) (Z : State) (a0 : Array Value) (hw : ∀ d ∈ tables_1, d.before a0 Z = true) (ws : List Jvm.Cond) (a1 : Addr) (p2 : Value) (h0 : Heap) (n0 : Nat) (Z0 : n0 ≤ h0.size) (hr2 : p2.isRef = true) (F1 : Fld Z h0 a1 "com/example/ikat/ikat/core/LinkEdit" "maxVisits" "Ljava/lang/Integer;" p2) :
    MetFree l (⟨"com/example/ikat/ikat/core/LinkEdit", "maxVisits", "()Ljava/lang/Integer;"⟩ : MethodName) (head1 (Jvm.Cond.code (⟨"com/example/ikat/ikat/core/LinkEdit", "maxVisits", "()Ljava/lang/Integer;"⟩ : MethodName) prog_5_method_11_code 1 (some (.object "java/lang/Integer")) :: ws) ({ frames := 0, cells := 0, slots := 0, locals := 0 } : Room)) (fun a U => a = #[(.ref a1)] ∧ Z.Warmed39 U.vm ∧ U.heap = h0) (fun _ _ _ _ _ => True) (fun _ U o U' => ∃ v L, o = .returned v ∧ Q_rmg5 Z a1 p2 h0 n0 v U'.heap L ∧ FrameEnd U o U' L ({ frames := 0, cells := 0, slots := 0, locals := 0 } : Room).cells ({ frames := 0, cells := 0, slots := 0, locals := 0 } : Room).slots) := by
  refine MetFree.of_bodySF (plainFor_of_name pn_rmg5) hisR ?_
  intro p e s m args_ below meth c s₁ Bd hml0 hP hK
  obtain ⟨hargs, hZ, hh⟩ := hP
  have hx := Bd.exec
  have hby := Bd.bytes
  have hml : c.maxLocals = 1 := hml0
  have hown : s.vm.findClass "com/example/ikat/ikat/core/LinkEdit" = some m.cls := findClass_of_methodNamed Bd.named
  have hnm := (name_of_methodNamed Bd.named Bd.method).1
  have X0 : Stand p l e ({ frames := 0, cells := 0, slots := 0, locals := 0 } : Room) s m args_ below meth c s₁ [] 0 0 := Stand.of_body Bd
  have e0 : s₁.heap = h0 := by rw [← hh, Bd.state]; rfl
  have N0 := Fr.nil n0
  have hv : ∀ (i : Nat) {d : Jvm.Cond}, tables_1[i]? = some d → d.before a0 Z = true := fun i d q => hw d (List.mem_of_getElem? q)
  have k0 : Go p e below m (s₁.setTop (entryFrame m args_ 1)) s₁ 0 #[.val (.ref a1)] [] := by rw [hargs]; exact fun t kt => castTop (ef_rmg5 m a1) kt
  obtain ⟨W, hWW⟩ : ∃ W, W = s₁.setTop (entryFrame m args_ 1) := ⟨_, rfl⟩
  rw [← hWW] at k0 ⊢
  show Done p e below s W (Q_rmg5 Z a1 p2 h0 n0) ({ frames := 0, cells := 0, slots := 0, locals := 0 } : Room).cells ({ frames := 0, cells := 0, slots := 0, locals := 0 } : Room).slots
  have k20 : Go p e below m W s₁ 1 #[.val (.ref a1)] [(.ref a1)] := k0.aloadN X0 hx (hb hby d_rmg5_0) rfl rfl
  obtain ⟨T21, X21, e21, k21⟩ := k20.getF X0 hx hZ hown (host := "") (Or.inl (hv 112 rfl)) Via.refl e0 F1 (hb hby d_rmg5_1)
  have k21 : Go p e below m W T21 4 #[.val (.ref a1)] [p2] := k21
  exact k21.areturn X21 hx Bd.returns rfl hr2 (hb hby d_rmg5_4) (BodyLoose.notSynchronized Bd) (by rw [e21]; exact ⟨rfl, N0, rfl⟩) (by decide) (by decide)

theorem d_rmbl_0 : decode jdk_2055_method_4_code 0 = .ok (.aload_n 0, 1) := by decide +kernel
theorem d_rmbl_1 : decode jdk_2055_method_4_code 1 = .ok (.getfield 7, 3) := by decide +kernel
theorem d_rmbl_4 : decode jdk_2055_method_4_code 4 = .ok (.ireturn, 1) := by decide +kernel
theorem pn_rmbl : plainName "java/lang/Boolean" = true := by first | (simp [plainName, overriddenIn]; done) | decide +kernel
theorem ef_rmbl (m : MethodId) (a1 : Addr) : entryFrame m #[(.ref a1)] 1 = mkF m 0 #[.val (.ref a1)] [] := by first | (simp [entryFrame, mkF, argsToLocals, Value.category]; done) | rfl
def Q_rmbl (Z : State) (a1 : Addr) (w2 : Int32) (h0 : Heap) (n0 : Nat) (v : Option Value) (h : Heap) (L : List Loc) : Prop := v = some (.int w2) ∧ Fr n0 L ∧ h = h0
set_option maxRecDepth 65536 in
set_option maxHeartbeats 40000000 in
theorem rmbl (l : Launch) (Z : State) (a0 : Array Value) (hw : ∀ d ∈ tables_1, d.before a0 Z = true) (ws : List Jvm.Cond) (a1 : Addr) (w2 : Int32) (h0 : Heap) (n0 : Nat) (Z0 : n0 ≤ h0.size) (B2 : w2 = 0 ∨ w2 = 1) (F1 : Fld Z h0 a1 "java/lang/Boolean" "value" "Z" (.int w2)) :
    MetFree l (⟨"java/lang/Boolean", "booleanValue", "()Z"⟩ : MethodName) (head1 (Jvm.Cond.code (⟨"java/lang/Boolean", "booleanValue", "()Z"⟩ : MethodName) jdk_2055_method_4_code 1 (some .boolean) :: ws) ({ frames := 0, cells := 0, slots := 0, locals := 0 } : Room)) (fun a U => a = #[(.ref a1)] ∧ Z.Warmed39 U.vm ∧ U.heap = h0) (fun _ _ _ _ _ => True) (fun _ U o U' => ∃ v L, o = .returned v ∧ Q_rmbl Z a1 w2 h0 n0 v U'.heap L ∧ FrameEnd U o U' L ({ frames := 0, cells := 0, slots := 0, locals := 0 } : Room).cells ({ frames := 0, cells := 0, slots := 0, locals := 0 } : Room).slots) := by
  refine MetFree.of_bodySF (plainFor_of_name pn_rmbl) hisR ?_
  intro p e s m args_ below meth c s₁ Bd hml0 hP hK
  obtain ⟨hargs, hZ, hh⟩ := hP
  have hx := Bd.exec
  have hby := Bd.bytes
  have hml : c.maxLocals = 1 := hml0
  have hown : s.vm.findClass "java/lang/Boolean" = some m.cls := findClass_of_methodNamed Bd.named
  have hnm := (name_of_methodNamed Bd.named Bd.method).1
  have X0 : Stand p l e ({ frames := 0, cells := 0, slots := 0, locals := 0 } : Room) s m args_ below meth c s₁ [] 0 0 := Stand.of_body Bd
  have e0 : s₁.heap = h0 := by rw [← hh, Bd.state]; rfl
  have N0 := Fr.nil n0
  have hv : ∀ (i : Nat) {d : Jvm.Cond}, tables_1[i]? = some d → d.before a0 Z = true := fun i d q => hw d (List.mem_of_getElem? q)
  have k0 : Go p e below m (s₁.setTop (entryFrame m args_ 1)) s₁ 0 #[.val (.ref a1)] [] := by rw [hargs]; exact fun t kt => castTop (ef_rmbl m a1) kt
  obtain ⟨W, hWW⟩ : ∃ W, W = s₁.setTop (entryFrame m args_ 1) := ⟨_, rfl⟩
  rw [← hWW] at k0 ⊢
  show Done p e below s W (Q_rmbl Z a1 w2 h0 n0) ({ frames := 0, cells := 0, slots := 0, locals := 0 } : Room).cells ({ frames := 0, cells := 0, slots := 0, locals := 0 } : Room).slots
  have k20 : Go p e below m W s₁ 1 #[.val (.ref a1)] [(.ref a1)] := k0.aloadN X0 hx (hb hby d_rmbl_0) rfl rfl
  obtain ⟨T21, X21, e21, k21⟩ := k20.getF X0 hx hZ hown (host := "") (Or.inl (hv 84 rfl)) Via.refl e0 F1 (hb hby d_rmbl_1)
  have k21 : Go p e below m W T21 4 #[.val (.ref a1)] [(.int w2)] := k21
  exact k21.ireturnN X21 hx (t := .boolean) Bd.returns (by simp) (own_nz B2).2.2 (hb hby d_rmbl_4) (BodyLoose.notSynchronized Bd) (by rw [e21]; exact ⟨rfl, N0, rfl⟩) (by decide) (by decide)

theorem pn_rm0 : plainName "com/example/ikat/ikat/core/LinkEditDestinationPinLaw" = true := by first | (simp [plainName, overriddenIn]; done) | decide +kernel
theorem pd_rm0_0 : parseMethodDescriptor "(II)Ljava/lang/String;" = some ⟨[.int, .int], (some (.object "java/lang/String"))⟩ := by decide +kernel
theorem pd_rm0_1 : parseMethodDescriptor "()V" = some ⟨[], none⟩ := by decide +kernel
theorem pd_rm0_2 : parseMethodDescriptor "(Ljava/lang/String;)Lcom/example/ikat/ikat/core/LinkEdit;" = some ⟨[(.object "java/lang/String")], (some (.object "com/example/ikat/ikat/core/LinkEdit"))⟩ := by decide +kernel
theorem pd_rm0_3 : parseMethodDescriptor "()Ljava/lang/String;" = some ⟨[], (some (.object "java/lang/String"))⟩ := by decide +kernel
theorem pd_rm0_4 : parseMethodDescriptor "()Ljava/lang/Boolean;" = some ⟨[], (some (.object "java/lang/Boolean"))⟩ := by decide +kernel
theorem pd_rm0_5 : parseMethodDescriptor "()Z" = some ⟨[], (some .boolean)⟩ := by decide +kernel
theorem pd_rm0_6 : parseMethodDescriptor "()Ljava/time/Instant;" = some ⟨[], (some (.object "java/time/Instant"))⟩ := by decide +kernel
theorem pd_rm0_7 : parseMethodDescriptor "()Ljava/lang/Integer;" = some ⟨[], (some (.object "java/lang/Integer"))⟩ := by decide +kernel
theorem pd_rm0_8 : parseMethodDescriptor "(Z)Lcom/example/ikat/ikat/core/LinkEdit;" = some ⟨[.boolean], (some (.object "com/example/ikat/ikat/core/LinkEdit"))⟩ := by decide +kernel
theorem ef_rm0 (m : MethodId) (p1 : Int32) (p2 : Int32) (p3 : Int32) (p4 : Int32) : entryFrame m #[(.int p1), (.int p2), (.int p3), (.int p4)] maxLocals = mkF m 0 #[.val (.int p1), .val (.int p2), .val (.int p3), .val (.int p4), .unset, .unset, .unset, .unset, .unset, .unset, .unset, .unset, .unset, .unset, .unset] [] := by first | (simp [entryFrame, mkF, argsToLocals, Value.category, maxLocals]; done) | rfl
def Q_rm0 (Z : State) (p1 : Int32) (p2 : Int32) (p3 : Int32) (p4 : Int32) (cz : Int32) (bt : Addr) (bf : Addr) (h0 : Heap) (n0 : Nat) (v : Option Value) (h : Heap) (L : List Loc) : Prop := v = some (.int (1 : Int32)) ∧ Fr n0 L
set_option maxRecDepth 65536 in
set_option maxHeartbeats 40000000 in
theorem rm0 (l : Launch) (Z : State) (a0 : Array Value) (hw : ∀ d ∈ tables_1, d.before a0 Z = true) (ws : List Jvm.Cond) (p1 : Int32) (p2 : Int32) (p3 : Int32) (p4 : Int32) (cz : Int32) (bt : Addr) (bf : Addr) (h0 : Heap) (n0 : Nat) (Z0 : n0 ≤ h0.size) (O0 : Old Z n0 h0) (S_cz : Sta Z Z.heap "java/lang/String" "COMPACT_STRINGS" "Z" (.int cz)) (hcz : ¬ (cz = (0 : Int32))) (St : Sta Z Z.heap "java/lang/Boolean" "TRUE" "Ljava/lang/Boolean;" (.ref bt)) (Et : Exa Z Z.heap bt "java/lang/Boolean") (Ft : Fld Z Z.heap bt "java/lang/Boolean" "value" "Z" (.int (1 : Int32))) (Sf : Sta Z Z.heap "java/lang/Boolean" "FALSE" "Ljava/lang/Boolean;" (.ref bf)) (Ef : Exa Z Z.heap bf "java/lang/Boolean") (Ff : Fld Z Z.heap bf "java/lang/Boolean" "value" "Z" (.int (0 : Int32))) :
    MetFree l x (head1 (Jvm.Cond.code x code maxLocals ret :: ws) room_1) (fun a U => a = #[(.int p1), (.int p2), (.int p3), (.int p4)] ∧ Z.Warmed39 U.vm ∧ U.heap = h0 ∧ CHv Z own_L U.vm h0 ∧ ∀ x ∈ ([] : List Addr), Safe Z own_L U.vm h0 x) (fun _ _ _ _ _ => True) (fun _ U o U' => ∃ v L, o = .returned v ∧ Q_rm0 Z p1 p2 p3 p4 cz bt bf h0 n0 v U'.heap L ∧ CHr Z own_L U.vm U.heap U'.vm U'.heap ∧ ReturnedEndW U o U' L room_1.cells room_1.slots) := by
  refine MetFree.of_bodySF (plainFor_of_name pn_rm0) hisR ?_
  intro p e s m args_ below meth c s₁ Bd hml0 hP hK
  obtain ⟨hargs, hZ, hh, hcv, hsf0⟩ := hP
  have hx := Bd.exec
  have hby := Bd.bytes
  have hml : c.maxLocals = 15 := hml0
  have hown : s.vm.findClass "com/example/ikat/ikat/core/LinkEditDestinationPinLaw" = some m.cls := findClass_of_methodNamed Bd.named
  have hnm := (name_of_methodNamed Bd.named Bd.method).1
  have X0 : Stand p l e room_1 (s.setVm s.vm) m args_ below meth c s₁ [] 0 0 := Stand.of_body Bd
  have e0 : s₁.heap = h0 := by rw [← hh, Bd.state]; rfl
  have N0 := Fr.nil n0
  have C0 : CHr Z own_L s.vm h0 s.vm h0 := CHr.refl hcv
  have hS0 : s.Since s.vm h0.size := (State.WarmedH.refl s).since _
  have hk0 : h0.size ≤ h0.size := Nat.le_refl _
  have own_EL : EW Z a0 own_L := own_EL0 hw
  have own_sa : ∀ a ∈ Bundle.stringAtoms, a.before a0 Z = true := own_sa0 hw
  have hv : ∀ (i : Nat) {d : Jvm.Cond}, tables_1[i]? = some d → d.before a0 Z = true := fun i d q => hw d (List.mem_of_getElem? q)
  have k0 : Go p e below m (s₁.setTop (entryFrame m args_ maxLocals)) s₁ 0 #[.val (.int p1), .val (.int p2), .val (.int p3), .val (.int p4), .unset, .unset, .unset, .unset, .unset, .unset, .unset, .unset, .unset, .unset, .unset] [] := by rw [hargs]; exact fun t kt => castTop (ef_rm0 m p1 p2 p3 p4) kt
  obtain ⟨W, hWW⟩ : ∃ W, W = s₁.setTop (entryFrame m args_ maxLocals) := ⟨_, rfl⟩
  rw [← hWW] at k0 ⊢
  show DoneS p e below Z own_L s W (Q_rm0 Z p1 p2 p3 p4 cz bt bf h0 n0) room_1.cells room_1.slots
  have k20 : Go p e below m W s₁ 3 #[.val (.int p1), .val (.int p2), .val (.int p3), .val (.int p4), .unset, .unset, .unset, .unset, .unset, .unset, .unset, .unset, .unset, .unset, .unset] [(.int (p4 &&& (1 : Int32)))] := ((k0.iloadN X0 hx (hb hby at_0) rfl).iconst X0 hx (hb hby at_1) (v := (1 : Int32)) rfl).iand X0 hx (hb hby at_2)
  by_cases hc3_21 : (p4 &&& (1 : Int32)) = (0 : Int32)
  ·
    have k22 : Go p e below m W s₁ 13 #[.val (.int p1), .val (.int p2), .val (.int p3), .val (.int p4), .val (.int (0 : Int32)), .unset, .unset, .unset, .unset, .unset, .unset, .unset, .unset, .unset, .unset] [] := ((k20.ifYes X0 hx (hb hby at_3) (XT.i0_eq_t hc3_21) (by decide) (by decide)).iconst X0 hx (hb hby at_10) (v := (0 : Int32)) rfl).istore X0 hx (hb hby at_11) rfl
    have k23 : Go p e below m W s₁ 16 #[.val (.int p1), .val (.int p2), .val (.int p3), .val (.int p4), .val (.int (0 : Int32)), .unset, .unset, .unset, .unset, .unset, .unset, .unset, .unset, .unset, .unset] [(.int (p4 &&& (2 : Int32)))] := ((k22.iloadN X0 hx (hb hby at_13) rfl).iconst X0 hx (hb hby at_14) (v := (2 : Int32)) rfl).iand X0 hx (hb hby at_15)
    obtain ⟨u24_S0, hd24, k24⟩ : ∃ (u24_S0 : Int32), ((((p4 &&& (2 : Int32)) = (0 : Int32)) ∧ u24_S0 = (0 : Int32)) ∨ ((¬ ((p4 &&& (2 : Int32)) = (0 : Int32))) ∧ u24_S0 = (1 : Int32))) ∧ Go p e below m W s₁ 24 #[.val (.int p1), .val (.int p2), .val (.int p3), .val (.int p4), .val (.int (0 : Int32)), .unset, .unset, .unset, .unset, .unset, .unset, .unset, .unset, .unset, .unset] [(.int u24_S0)] := by
      by_cases hc16_25 : (p4 &&& (2 : Int32)) = (0 : Int32)
      ·
        have k26 : Go p e below m W s₁ 24 #[.val (.int p1), .val (.int p2), .val (.int p3), .val (.int p4), .val (.int (0 : Int32)), .unset, .unset, .unset, .unset, .unset, .unset, .unset, .unset, .unset, .unset] [(.int (0 : Int32))] := (k23.ifYes X0 hx (hb hby at_16) (XT.i0_eq_t hc16_25) (by decide) (by decide)).iconst X0 hx (hb hby at_23) (v := (0 : Int32)) rfl
        exact ⟨(0 : Int32), (Or.inl ⟨hc16_25, rfl⟩), k26⟩
      ·
        have k27 : Go p e below m W s₁ 24 #[.val (.int p1), .val (.int p2), .val (.int p3), .val (.int p4), .val (.int (0 : Int32)), .unset, .unset, .unset, .unset, .unset, .unset, .unset, .unset, .unset, .unset] [(.int (1 : Int32))] := ((k23.ifNo X0 hx (hb hby at_16) (XT.i0_eq_f hc16_25)).iconst X0 hx (hb hby at_19) (v := (1 : Int32)) rfl).goto X0 hx (hb hby at_20) (by decide) (by decide)
        exact ⟨(1 : Int32), (Or.inr ⟨hc16_25, rfl⟩), k27⟩
    have k28 : Go p e below m W s₁ 26 #[.val (.int p1), .val (.int p2), .val (.int p3), .val (.int p4), .val (.int (0 : Int32)), .val (.int u24_S0), .unset, .unset, .unset, .unset, .unset, .unset, .unset, .unset, .unset] [] := k24.istore X0 hx (hb hby at_24) rfl
    have k29 : Go p e below m W s₁ 29 #[.val (.int p1), .val (.int p2), .val (.int p3), .val (.int p4), .val (.int (0 : Int32)), .val (.int u24_S0), .unset, .unset, .unset, .unset, .unset, .unset, .unset, .unset, .unset] [(.int (p4 &&& (4 : Int32)))] := ((k28.iloadN X0 hx (hb hby at_26) rfl).iconst X0 hx (hb hby at_27) (v := (4 : Int32)) rfl).iand X0 hx (hb hby at_28)
    by_cases hc29_30 : (p4 &&& (4 : Int32)) = (0 : Int32)
    ·
      have k31 : Go p e below m W s₁ 39 #[.val (.int p1), .val (.int p2), .val (.int p3), .val (.int p4), .val (.int (0 : Int32)), .val (.int u24_S0), .val (.int (0 : Int32)), .unset, .unset, .unset, .unset, .unset, .unset, .unset, .unset] [] := ((k29.ifYes X0 hx (hb hby at_29) (XT.i0_eq_t hc29_30) (by decide) (by decide)).iconst X0 hx (hb hby at_36) (v := (0 : Int32)) rfl).istore X0 hx (hb hby at_37) rfl
      have k32 : Go p e below m W s₁ 43 #[.val (.int p1), .val (.int p2), .val (.int p3), .val (.int p4), .val (.int (0 : Int32)), .val (.int u24_S0), .val (.int (0 : Int32)), .unset, .unset, .unset, .unset, .unset, .unset, .unset, .unset] [(.int (p3 &&& (3 : Int32))), (.int p1)] := (((k31.iloadN X0 hx (hb hby at_39) rfl).iloadN X0 hx (hb hby at_40) rfl).iconst X0 hx (hb hby at_41) (v := (3 : Int32)) rfl).iand X0 hx (hb hby at_42)
      obtain ⟨T33, v33, L33, X33, Q33, D33, hS33, hZ33, hown33, k33⟩ := k32.statS (y := (⟨"com/example/ikat/ikat/core/LinkEditDestinationPinLaw", "str", "(II)Ljava/lang/String;"⟩ : MethodName)) (Wd := 0) (cells' := 6) (slots' := 12) (xs := []) (argsL := [(.int p1), (.int (p3 &&& (3 : Int32)))]) (rest := []) X0 hx hZ hown (by rw [hml]; rfl) (hv 0 rfl) (hv 1 rfl) (hv 3 rfl) (hv 2 rfl) (hb hby at_43) (by decide) hS0 hk0 own_EL C0.1 sf0 (rmst l Z a0 hw [] p1 (p3 &&& (3 : Int32)) cz h0 n0 Z0 O0 S_cz hcz) e0 rfl rfl pd_rm0_0 rfl (Nat.le_of_eq rfl) (by decide) (by decide) rfl rfl (by decide) (by decide)
      obtain ⟨ro_33, rfl, Nq33, Kq33, q33_0, q33_1, q33_2⟩ := Q33
      have N33 := Fr.app N0 Nq33
      obtain ⟨h33, e33⟩ : ∃ h, T33.heap = h := ⟨_, rfl⟩
      rw [e33] at Kq33 q33_0
      have Z33 : n0 ≤ h33.size := Nat.le_trans Z0 Kq33.1
      have f34 := O0.keep Kq33 (fun x q => absurd q List.not_mem_nil)
      have k33 : Go p e below m W T33 46 #[.val (.int p1), .val (.int p2), .val (.int p3), .val (.int p4), .val (.int (0 : Int32)), .val (.int u24_S0), .val (.int (0 : Int32)), .unset, .unset, .unset, .unset, .unset, .unset, .unset, .unset] [(.ref ro_33)] := k33
      rw [e33] at D33 hS33
      have C33 := C0.trans D33
      have k35 : Go p e below m W T33 48 #[.val (.int p1), .val (.int p2), .val (.int p3), .val (.int p4), .val (.int (0 : Int32)), .val (.int u24_S0), .val (.int (0 : Int32)), .val (.ref ro_33), .unset, .unset, .unset, .unset, .unset, .unset, .unset] [] := k33.astore X33 hx (hb hby at_46) rfl rfl
      have k36 : Go p e below m W T33 54 #[.val (.int p1), .val (.int p2), .val (.int p3), .val (.int p4), .val (.int (0 : Int32)), .val (.int u24_S0), .val (.int (0 : Int32)), .val (.ref ro_33), .unset, .unset, .unset, .unset, .unset, .unset, .unset] [(.int ((XT.ushr p3 (2 : Int32)) &&& (3 : Int32))), (.int p2)] := (((((k35.iloadN X33 hx (hb hby at_48) rfl).iloadN X33 hx (hb hby at_49) rfl).iconst X33 hx (hb hby at_50) (v := (2 : Int32)) rfl).iushr X33 hx (hb hby at_51)).iconst X33 hx (hb hby at_52) (v := (3 : Int32)) rfl).iand X33 hx (hb hby at_53)
      obtain ⟨T37, v37, L37, X37, Q37, D37, hS37, hZ37, hown37, k37⟩ := k36.statS (y := (⟨"com/example/ikat/ikat/core/LinkEditDestinationPinLaw", "str", "(II)Ljava/lang/String;"⟩ : MethodName)) (Wd := 0) (cells' := 12) (slots' := 24) (xs := []) (argsL := [(.int p2), (.int ((XT.ushr p3 (2 : Int32)) &&& (3 : Int32)))]) (rest := []) X33 hx hZ33 hown33 (by rw [hml]; rfl) (hv 0 rfl) (hv 1 rfl) (hv 3 rfl) (hv 2 rfl) (hb hby at_54) (by decide) hS33 (Nat.le_refl _) own_EL C33.1 sf0 (rmst l Z a0 hw [] p2 ((XT.ushr p3 (2 : Int32)) &&& (3 : Int32)) cz h33 n0 Z33 f34 S_cz hcz) e33 rfl rfl pd_rm0_0 rfl (Nat.le_of_eq rfl) (by decide) (by decide) rfl rfl (by decide) (by decide)
      obtain ⟨ro_37, rfl, Nq37, Kq37, q37_0, q37_1, q37_2⟩ := Q37
      have N37 := Fr.app N33 Nq37
      obtain ⟨h37, e37⟩ : ∃ h, T37.heap = h := ⟨_, rfl⟩
      rw [e37] at Kq37 q37_0
      have Z37 : n0 ≤ h37.size := Nat.le_trans Z33 Kq37.1
      have f38 := f34.keep Kq37 (fun x q => absurd q List.not_mem_nil)
      have f39 := q33_0.keep Kq37
      have ne40_ro_33 : ro_33 ≠ ro_37 := Nat.ne_of_lt (Nat.lt_of_lt_of_le q33_0.lt q37_2)
      have k37 : Go p e below m W T37 57 #[.val (.int p1), .val (.int p2), .val (.int p3), .val (.int p4), .val (.int (0 : Int32)), .val (.int u24_S0), .val (.int (0 : Int32)), .val (.ref ro_33), .unset, .unset, .unset, .unset, .unset, .unset, .unset] [(.ref ro_37)] := k37
      rw [e37] at D37 hS37
      have C37 := C33.trans D37
      have k41 : Go p e below m W T37 59 #[.val (.int p1), .val (.int p2), .val (.int p3), .val (.int p4), .val (.int (0 : Int32)), .val (.int u24_S0), .val (.int (0 : Int32)), .val (.ref ro_33), .val (.ref ro_37), .unset, .unset, .unset, .unset, .unset, .unset] [] := k37.astore X37 hx (hb hby at_57) rfl rfl
      obtain ⟨T42, h42, b42, X42, e42, g42, E42, A42, D42, k42⟩ := k41.newO (cells' := 13) (slots' := 30) X37 hx hZ37 hown37 (hv 37 rfl) (hv 38 rfl) (hv 39 rfl) e37 (hb hby at_59) rfl rfl (by decide) (by decide)
      have k42 : Go p e below m W T42 62 #[.val (.int p1), .val (.int p2), .val (.int p3), .val (.int p4), .val (.int (0 : Int32)), .val (.int u24_S0), .val (.int (0 : Int32)), .val (.ref ro_33), .val (.ref ro_37), .unset, .unset, .unset, .unset, .unset, .unset] [(.ref b42)] := k42
      have Z42 : n0 ≤ h42.size := Nat.le_trans Z37 E42.1
      have ne42_ro_33 : ro_33 ≠ b42 := Nat.ne_of_lt (g42 ▸ f39.lt)
      have ne42_ro_37 : ro_37 ≠ b42 := Nat.ne_of_lt (g42 ▸ q37_0.lt)
      have f43 := f38.ext E42
      have f44 := f39.ext E42
      have f45 := q37_0.ext E42
      have G42 : n0 ≤ b42 := g42 ▸ Z37
      have DC42 := CHr.ext E42 C37.1
      have C42 := C37.trans DC42
      have hk42 : _ ≤ h42.size := Nat.le_trans (Nat.le_refl _) DC42.2.1
      have sf46 := Safe.ext E42 C37.1 (Safe.new (x := b42) (Nat.le_of_eq g42.symm))
      have f47 : Fld Z h42 b42 "com/example/ikat/ikat/core/LinkEdit" "paused" "Ljava/lang/Boolean;" .null := D42 (Or.inl (hv 55 rfl)) (ty := (.object "java/lang/Boolean")) (by decide)
      have f48 : Fld Z h42 b42 "com/example/ikat/ikat/core/LinkEdit" "destination" "Ljava/lang/String;" .null := D42 (Or.inl (hv 68 rfl)) (ty := (.object "java/lang/String")) (by decide)
      have f49 : Fld Z h42 b42 "com/example/ikat/ikat/core/LinkEdit" "changesExpiry" "Z" (.int (0 : Int32)) := D42 (Or.inl (hv 92 rfl)) (ty := .boolean) (by decide)
      have f50 : Fld Z h42 b42 "com/example/ikat/ikat/core/LinkEdit" "expiresAt" "Ljava/time/Instant;" .null := D42 (Or.inl (hv 99 rfl)) (ty := (.object "java/time/Instant")) (by decide)
      have f51 : Fld Z h42 b42 "com/example/ikat/ikat/core/LinkEdit" "changesMaxVisits" "Z" (.int (0 : Int32)) := D42 (Or.inl (hv 106 rfl)) (ty := .boolean) (by decide)
      have f52 : Fld Z h42 b42 "com/example/ikat/ikat/core/LinkEdit" "maxVisits" "Ljava/lang/Integer;" .null := D42 (Or.inl (hv 113 rfl)) (ty := (.object "java/lang/Integer")) (by decide)
      have k53 : Go p e below m W T42 63 #[.val (.int p1), .val (.int p2), .val (.int p3), .val (.int p4), .val (.int (0 : Int32)), .val (.int u24_S0), .val (.int (0 : Int32)), .val (.ref ro_33), .val (.ref ro_37), .unset, .unset, .unset, .unset, .unset, .unset] [(.ref b42), (.ref b42)] := k42.dup X42 hx (hb hby at_62) rfl
      obtain ⟨T54, v54, L54, X54, Q54, k54⟩ := k53.spec (y := (⟨"com/example/ikat/ikat/core/LinkEdit", "<init>", "()V"⟩ : MethodName)) (b := b42) (Wd := 1) (cells' := 13) (slots' := 30) (argsL := []) (rest := [(.ref b42)]) X42 hx hZ37 hown37 (by rw [hml]; rfl) rfl (hv 40 rfl) (hv 41 rfl) (hv 42 rfl) (hv 39 rfl) (hb hby at_63) (by decide) (rme l Z a0 hw [] b42 h42 n0 Z42) e42 rfl rfl pd_rm0_1 rfl (Nat.le_of_eq rfl) (by decide) (by decide) rfl rfl (by decide) (by decide)
      obtain ⟨rfl, Nq54, e54q⟩ := Q54
      have N54 := Fr.app N37 Nq54
      have e54 : T54.heap = h42 := e54q
      have k54 : Go p e below m W T54 66 #[.val (.int p1), .val (.int p2), .val (.int p3), .val (.int p4), .val (.int (0 : Int32)), .val (.int u24_S0), .val (.int (0 : Int32)), .val (.ref ro_33), .val (.ref ro_37), .unset, .unset, .unset, .unset, .unset, .unset] [(.ref b42)] := k54
      have k55 : Go p e below m W T54 68 #[.val (.int p1), .val (.int p2), .val (.int p3), .val (.int p4), .val (.int (0 : Int32)), .val (.int u24_S0), .val (.int (0 : Int32)), .val (.ref ro_33), .val (.ref ro_37), .val (.ref b42), .unset, .unset, .unset, .unset, .unset] [] := k54.astore X54 hx (hb hby at_66) rfl rfl
      have k56 : Go p e below m W T54 85 #[.val (.int p1), .val (.int p2), .val (.int p3), .val (.int p4), .val (.int (0 : Int32)), .val (.int u24_S0), .val (.int (0 : Int32)), .val (.ref ro_33), .val (.ref ro_37), .val (.ref b42), .unset, .unset, .unset, .unset, .unset] [(.ref ro_33), (.ref b42)] := (((k55.iload X54 hx (hb hby at_68) rfl).ifYes X54 hx (hb hby at_70) (XT.i0_eq_t (by decide)) (by decide) (by decide)).aload X54 hx (hb hby at_81) rfl rfl).aload X54 hx (hb hby at_83) rfl rfl
      obtain ⟨T57, v57, L57, X57, Q57, D57, hS57, hZ57, hown57, k57⟩ := k56.virtS (y := (⟨"com/example/ikat/ikat/core/LinkEdit", "destination", "(Ljava/lang/String;)Lcom/example/ikat/ikat/core/LinkEdit;"⟩ : MethodName)) (z := (⟨"com/example/ikat/ikat/core/LinkEdit", "destination", "(Ljava/lang/String;)Lcom/example/ikat/ikat/core/LinkEdit;"⟩ : MethodName)) (Wd := 0) (cells' := 15) (slots' := 78) (xs := []) (argsL := [(.ref ro_33)]) (rest := []) X54 hx hZ37 hown37 (by rw [hml]; rfl) (hv 56 rfl) (hv 57 rfl) (notFace_of_selects (args := #[]) (mvT (s := s.setVm T37.vm) hZ37 (hv 59 rfl))) (hv 59 rfl) (hv 58 rfl) (hv 60 rfl) (hv 39 rfl) (hb hby at_85) (by decide) hS37 hk42 own_EL C42.1 sf0 (rmsd l Z a0 hw [] b42 ro_33 .null .null (.int (0 : Int32)) .null (.int (0 : Int32)) .null h42 n0 Z42 A42 G42 f44 f48 f47 f49 f50 f51 f52) e54 A42 rfl rfl pd_rm0_2 rfl (Nat.le_of_eq rfl) (by decide) (by decide) rfl rfl (by decide) (by decide)
      obtain ⟨rfl, Nq57, Kq57, q57_0, q57_1, q57_2, q57_3, q57_4, q57_5, q57_6⟩ := Q57
      have N57 := Fr.app N54 Nq57
      obtain ⟨h57, e57⟩ : ∃ h, T57.heap = h := ⟨_, rfl⟩
      rw [e57] at Kq57 q57_0 q57_1 q57_2 q57_3 q57_4 q57_5 q57_6
      have Z57 : n0 ≤ h57.size := Nat.le_trans Z42 Kq57.1
      have f58 := f43.keep Kq57 (by intro x q; simp only [List.mem_cons, List.not_mem_nil, or_false] at q; rcases q with rfl; exact G42)
      have f59 := f44.keep Kq57
      have f60 := f45.keep Kq57
      have f61 := A42.keep Kq57
      have k57 : Go p e below m W T57 88 #[.val (.int p1), .val (.int p2), .val (.int p3), .val (.int p4), .val (.int (0 : Int32)), .val (.int u24_S0), .val (.int (0 : Int32)), .val (.ref ro_33), .val (.ref ro_37), .val (.ref b42), .unset, .unset, .unset, .unset, .unset] [(.ref b42)] := k57
      rw [e57] at D57 hS57
      have C57 := C42.trans D57
      have sf62 := D57.safe A42.lt sf46
      have k63 : Go p e below m W T57 90 #[.val (.int p1), .val (.int p2), .val (.int p3), .val (.int p4), .val (.int (0 : Int32)), .val (.int u24_S0), .val (.int (0 : Int32)), .val (.ref ro_33), .val (.ref ro_37), .val (.ref b42), .val (.ref b42), .unset, .unset, .unset, .unset] [] := k57.astore X57 hx (hb hby at_88) rfl rfl
      have k64 : Go p e below m W T57 94 #[.val (.int p1), .val (.int p2), .val (.int p3), .val (.int p4), .val (.int (0 : Int32)), .val (.int u24_S0), .val (.int (0 : Int32)), .val (.ref ro_33), .val (.ref ro_37), .val (.ref b42), .val (.ref b42), .val (.ref b42), .unset, .unset, .unset] [] := (k63.aload X57 hx (hb hby at_90) rfl rfl).astore X57 hx (hb hby at_92) rfl rfl
      have k65 : Go p e below m W T57 122 #[.val (.int p1), .val (.int p2), .val (.int p3), .val (.int p4), .val (.int (0 : Int32)), .val (.int u24_S0), .val (.int (0 : Int32)), .val (.ref ro_33), .val (.ref ro_37), .val (.ref b42), .val (.ref b42), .val (.ref b42), .val (.ref ro_33), .unset, .unset] [] := (((((k64.iload X57 hx (hb hby at_94) rfl).ifYes X57 hx (hb hby at_96) (XT.i0_eq_t (by decide)) (by decide) (by decide)).iload X57 hx (hb hby at_108) rfl).ifYes X57 hx (hb hby at_110) (XT.i0_eq_t (by decide)) (by decide) (by decide)).aload X57 hx (hb hby at_118) rfl rfl).astore X57 hx (hb hby at_120) rfl rfl
      have k66 : Go p e below m W T57 143 #[.val (.int p1), .val (.int p2), .val (.int p3), .val (.int p4), .val (.int (0 : Int32)), .val (.int u24_S0), .val (.int (0 : Int32)), .val (.ref ro_33), .val (.ref ro_37), .val (.ref b42), .val (.ref b42), .val (.ref b42), .val (.ref ro_33), .val (.int (1 : Int32)), .unset] [] := ((((((((k65.aload X57 hx (hb hby at_122) rfl rfl).aload X57 hx (hb hby at_124) rfl rfl).acmpNo X57 hx (hb hby at_126) rfl rfl (XT.aa_ne_f rfl)).aload X57 hx (hb hby at_129) rfl rfl).aload X57 hx (hb hby at_131) rfl rfl).acmpNo X57 hx (hb hby at_133) rfl rfl (XT.aa_ne_f rfl)).iconst X57 hx (hb hby at_136) (v := (1 : Int32)) rfl).goto X57 hx (hb hby at_137) (by decide) (by decide)).istore X57 hx (hb hby at_141) rfl
      have k67 : Go p e below m W T57 150 #[.val (.int p1), .val (.int p2), .val (.int p3), .val (.int p4), .val (.int (0 : Int32)), .val (.int u24_S0), .val (.int (0 : Int32)), .val (.ref ro_33), .val (.ref ro_37), .val (.ref b42), .val (.ref b42), .val (.ref b42), .val (.ref ro_33), .val (.int (1 : Int32)), .unset] [(.ref b42)] := ((k66.iload X57 hx (hb hby at_143) rfl).ifNo X57 hx (hb hby at_145) (XT.i0_eq_f (by decide))).aload X57 hx (hb hby at_148) rfl rfl
      obtain ⟨T68, v68, L68, X68, Q68, k68⟩ := k67.virt (y := (⟨"com/example/ikat/ikat/core/LinkEdit", "destination", "()Ljava/lang/String;"⟩ : MethodName)) (z := (⟨"com/example/ikat/ikat/core/LinkEdit", "destination", "()Ljava/lang/String;"⟩ : MethodName)) (Wd := 0) (cells' := 15) (slots' := 78) (argsL := []) (rest := []) X57 hx hZ57 hown57 (by rw [hml]; rfl) (hv 69 rfl) (hv 70 rfl) (notFace_of_selects (args := #[]) (mvT hZ57 (hv 72 rfl))) (hv 72 rfl) (hv 71 rfl) (hv 73 rfl) (hv 39 rfl) (hb hby at_150) (by decide) (rmg0 l Z a0 hw [] b42 (.ref ro_33) h57 n0 Z57 rfl q57_1) e57 q57_0 rfl rfl pd_rm0_3 rfl (Nat.le_of_eq rfl) (by decide) (by decide) rfl rfl (by decide) (by decide)
      obtain ⟨rfl, Nq68, e68q⟩ := Q68
      have N68 := Fr.app N57 Nq68
      have e68 : T68.heap = h57 := e68q
      have k68 : Go p e below m W T68 153 #[.val (.int p1), .val (.int p2), .val (.int p3), .val (.int p4), .val (.int (0 : Int32)), .val (.int u24_S0), .val (.int (0 : Int32)), .val (.ref ro_33), .val (.ref ro_37), .val (.ref b42), .val (.ref b42), .val (.ref b42), .val (.ref ro_33), .val (.int (1 : Int32)), .unset] [(.ref ro_33)] := k68
      have k69 : Go p e below m W T68 165 #[.val (.int p1), .val (.int p2), .val (.int p3), .val (.int p4), .val (.int (0 : Int32)), .val (.int u24_S0), .val (.int (0 : Int32)), .val (.ref ro_33), .val (.ref ro_37), .val (.ref b42), .val (.ref b42), .val (.ref b42), .val (.ref ro_33), .val (.int (1 : Int32)), .unset] [] := ((((k68.aload X68 hx (hb hby at_153) rfl rfl).acmpNo X68 hx (hb hby at_155) rfl rfl (XT.aa_ne_f rfl)).iconst X68 hx (hb hby at_158) (v := (1 : Int32)) rfl).goto X68 hx (hb hby at_159) (by decide) (by decide)).istore X68 hx (hb hby at_163) rfl
      have k70 : Go p e below m W T68 167 #[.val (.int p1), .val (.int p2), .val (.int p3), .val (.int p4), .val (.int (0 : Int32)), .val (.int u24_S0), .val (.int (0 : Int32)), .val (.ref ro_33), .val (.ref ro_37), .val (.ref b42), .val (.ref b42), .val (.ref b42), .val (.ref ro_33), .val (.int (1 : Int32)), .unset] [(.ref b42)] := k69.aload X68 hx (hb hby at_165) rfl rfl
      obtain ⟨T71, v71, L71, X71, Q71, k71⟩ := k70.virt (y := (⟨"com/example/ikat/ikat/core/LinkEdit", "paused", "()Ljava/lang/Boolean;"⟩ : MethodName)) (z := (⟨"com/example/ikat/ikat/core/LinkEdit", "paused", "()Ljava/lang/Boolean;"⟩ : MethodName)) (Wd := 0) (cells' := 15) (slots' := 78) (argsL := []) (rest := []) X68 hx hZ57 hown57 (by rw [hml]; rfl) (hv 74 rfl) (hv 75 rfl) (notFace_of_selects (args := #[]) (mvT hZ57 (hv 77 rfl))) (hv 77 rfl) (hv 76 rfl) (hv 78 rfl) (hv 39 rfl) (hb hby at_167) (by decide) (rmg1 l Z a0 hw [] b42 .null h57 n0 Z57 rfl q57_2) e68 q57_0 rfl rfl pd_rm0_4 rfl (Nat.le_of_eq rfl) (by decide) (by decide) rfl rfl (by decide) (by decide)
      obtain ⟨rfl, Nq71, e71q⟩ := Q71
      have N71 := Fr.app N68 Nq71
      have e71 : T71.heap = h57 := e71q
      have k71 : Go p e below m W T71 170 #[.val (.int p1), .val (.int p2), .val (.int p3), .val (.int p4), .val (.int (0 : Int32)), .val (.int u24_S0), .val (.int (0 : Int32)), .val (.ref ro_33), .val (.ref ro_37), .val (.ref b42), .val (.ref b42), .val (.ref b42), .val (.ref ro_33), .val (.int (1 : Int32)), .unset] [.null] := k71
      have k72 : Go p e below m W T71 172 #[.val (.int p1), .val (.int p2), .val (.int p3), .val (.int p4), .val (.int (0 : Int32)), .val (.int u24_S0), .val (.int (0 : Int32)), .val (.ref ro_33), .val (.ref ro_37), .val (.ref b42), .val (.ref b42), .val (.ref b42), .val (.ref ro_33), .val (.int (1 : Int32)), .val .null] [] := k71.astore X71 hx (hb hby at_170) rfl rfl
      have k73 : Go p e below m W T71 224 #[.val (.int p1), .val (.int p2), .val (.int p3), .val (.int p4), .val (.int (0 : Int32)), .val (.int u24_S0), .val (.int (0 : Int32)), .val (.ref ro_33), .val (.ref ro_37), .val (.ref b42), .val (.ref b42), .val (.ref b42), .val (.ref ro_33), .val (.int (1 : Int32)), .val .null] [] := ((((((((k72.iload X71 hx (hb hby at_172) rfl).ifYes X71 hx (hb hby at_174) (XT.i0_eq_t (by decide)) (by decide) (by decide)).iload X71 hx (hb hby at_207) rfl).ifNo X71 hx (hb hby at_209) (XT.i0_eq_f (by decide))).aload X71 hx (hb hby at_212) rfl rfl).nonnullNo X71 hx (hb hby at_214) rfl).iconst X71 hx (hb hby at_217) (v := (1 : Int32)) rfl).goto X71 hx (hb hby at_218) (by decide) (by decide)).istore X71 hx (hb hby at_222) rfl
      have k74 : Go p e below m W T71 231 #[.val (.int p1), .val (.int p2), .val (.int p3), .val (.int p4), .val (.int (0 : Int32)), .val (.int u24_S0), .val (.int (0 : Int32)), .val (.ref ro_33), .val (.ref ro_37), .val (.ref b42), .val (.ref b42), .val (.ref b42), .val (.ref ro_33), .val (.int (1 : Int32)), .val .null] [(.ref b42)] := ((k73.iload X71 hx (hb hby at_224) rfl).ifNo X71 hx (hb hby at_226) (XT.i0_eq_f (by decide))).aload X71 hx (hb hby at_229) rfl rfl
      obtain ⟨T75, v75, L75, X75, Q75, k75⟩ := k74.virt (y := (⟨"com/example/ikat/ikat/core/LinkEdit", "changesExpiry", "()Z"⟩ : MethodName)) (z := (⟨"com/example/ikat/ikat/core/LinkEdit", "changesExpiry", "()Z"⟩ : MethodName)) (Wd := 0) (cells' := 15) (slots' := 78) (argsL := []) (rest := []) X71 hx hZ57 hown57 (by rw [hml]; rfl) (hv 86 rfl) (hv 87 rfl) (notFace_of_selects (args := #[]) (mvT hZ57 (hv 89 rfl))) (hv 89 rfl) (hv 88 rfl) (hv 90 rfl) (hv 39 rfl) (hb hby at_231) (by decide) (rmg2 l Z a0 hw [] b42 (0 : Int32) h57 n0 Z57 (Or.inl rfl) q57_3) e71 q57_0 rfl rfl pd_rm0_5 rfl (Nat.le_of_eq rfl) (by decide) (by decide) rfl rfl (by decide) (by decide)
      obtain ⟨rfl, Nq75, e75q⟩ := Q75
      have N75 := Fr.app N71 Nq75
      have e75 : T75.heap = h57 := e75q
      have k75 : Go p e below m W T75 234 #[.val (.int p1), .val (.int p2), .val (.int p3), .val (.int p4), .val (.int (0 : Int32)), .val (.int u24_S0), .val (.int (0 : Int32)), .val (.ref ro_33), .val (.ref ro_37), .val (.ref b42), .val (.ref b42), .val (.ref b42), .val (.ref ro_33), .val (.int (1 : Int32)), .val .null] [(.int (0 : Int32))] := k75
      have k76 : Go p e below m W T75 244 #[.val (.int p1), .val (.int p2), .val (.int p3), .val (.int p4), .val (.int (0 : Int32)), .val (.int u24_S0), .val (.int (0 : Int32)), .val (.ref ro_33), .val (.ref ro_37), .val (.ref b42), .val (.ref b42), .val (.ref b42), .val (.ref ro_33), .val (.int (1 : Int32)), .val .null] [] := (((k75.ifNo X75 hx (hb hby at_234) (XT.i0_ne_f (by decide))).iconst X75 hx (hb hby at_237) (v := (1 : Int32)) rfl).goto X75 hx (hb hby at_238) (by decide) (by decide)).istore X75 hx (hb hby at_242) rfl
      have k77 : Go p e below m W T75 251 #[.val (.int p1), .val (.int p2), .val (.int p3), .val (.int p4), .val (.int (0 : Int32)), .val (.int u24_S0), .val (.int (0 : Int32)), .val (.ref ro_33), .val (.ref ro_37), .val (.ref b42), .val (.ref b42), .val (.ref b42), .val (.ref ro_33), .val (.int (1 : Int32)), .val .null] [(.ref b42)] := ((k76.iload X75 hx (hb hby at_244) rfl).ifNo X75 hx (hb hby at_246) (XT.i0_eq_f (by decide))).aload X75 hx (hb hby at_249) rfl rfl
      obtain ⟨T78, v78, L78, X78, Q78, k78⟩ := k77.virt (y := (⟨"com/example/ikat/ikat/core/LinkEdit", "expiresAt", "()Ljava/time/Instant;"⟩ : MethodName)) (z := (⟨"com/example/ikat/ikat/core/LinkEdit", "expiresAt", "()Ljava/time/Instant;"⟩ : MethodName)) (Wd := 0) (cells' := 15) (slots' := 78) (argsL := []) (rest := []) X75 hx hZ57 hown57 (by rw [hml]; rfl) (hv 93 rfl) (hv 94 rfl) (notFace_of_selects (args := #[]) (mvT hZ57 (hv 96 rfl))) (hv 96 rfl) (hv 95 rfl) (hv 97 rfl) (hv 39 rfl) (hb hby at_251) (by decide) (rmg3 l Z a0 hw [] b42 .null h57 n0 Z57 rfl q57_4) e75 q57_0 rfl rfl pd_rm0_6 rfl (Nat.le_of_eq rfl) (by decide) (by decide) rfl rfl (by decide) (by decide)
      obtain ⟨rfl, Nq78, e78q⟩ := Q78
      have N78 := Fr.app N75 Nq78
      have e78 : T78.heap = h57 := e78q
      have k78 : Go p e below m W T78 254 #[.val (.int p1), .val (.int p2), .val (.int p3), .val (.int p4), .val (.int (0 : Int32)), .val (.int u24_S0), .val (.int (0 : Int32)), .val (.ref ro_33), .val (.ref ro_37), .val (.ref b42), .val (.ref b42), .val (.ref b42), .val (.ref ro_33), .val (.int (1 : Int32)), .val .null] [.null] := k78
      have k79 : Go p e below m W T78 264 #[.val (.int p1), .val (.int p2), .val (.int p3), .val (.int p4), .val (.int (0 : Int32)), .val (.int u24_S0), .val (.int (0 : Int32)), .val (.ref ro_33), .val (.ref ro_37), .val (.ref b42), .val (.ref b42), .val (.ref b42), .val (.ref ro_33), .val (.int (1 : Int32)), .val .null] [] := (((k78.nonnullNo X78 hx (hb hby at_254) rfl).iconst X78 hx (hb hby at_257) (v := (1 : Int32)) rfl).goto X78 hx (hb hby at_258) (by decide) (by decide)).istore X78 hx (hb hby at_262) rfl
      have k80 : Go p e below m W T78 271 #[.val (.int p1), .val (.int p2), .val (.int p3), .val (.int p4), .val (.int (0 : Int32)), .val (.int u24_S0), .val (.int (0 : Int32)), .val (.ref ro_33), .val (.ref ro_37), .val (.ref b42), .val (.ref b42), .val (.ref b42), .val (.ref ro_33), .val (.int (1 : Int32)), .val .null] [(.ref b42)] := ((k79.iload X78 hx (hb hby at_264) rfl).ifNo X78 hx (hb hby at_266) (XT.i0_eq_f (by decide))).aload X78 hx (hb hby at_269) rfl rfl
      obtain ⟨T81, v81, L81, X81, Q81, k81⟩ := k80.virt (y := (⟨"com/example/ikat/ikat/core/LinkEdit", "changesMaxVisits", "()Z"⟩ : MethodName)) (z := (⟨"com/example/ikat/ikat/core/LinkEdit", "changesMaxVisits", "()Z"⟩ : MethodName)) (Wd := 0) (cells' := 15) (slots' := 78) (argsL := []) (rest := []) X78 hx hZ57 hown57 (by rw [hml]; rfl) (hv 100 rfl) (hv 101 rfl) (notFace_of_selects (args := #[]) (mvT hZ57 (hv 103 rfl))) (hv 103 rfl) (hv 102 rfl) (hv 104 rfl) (hv 39 rfl) (hb hby at_271) (by decide) (rmg4 l Z a0 hw [] b42 (0 : Int32) h57 n0 Z57 (Or.inl rfl) q57_5) e78 q57_0 rfl rfl pd_rm0_5 rfl (Nat.le_of_eq rfl) (by decide) (by decide) rfl rfl (by decide) (by decide)
      obtain ⟨rfl, Nq81, e81q⟩ := Q81
      have N81 := Fr.app N78 Nq81
      have e81 : T81.heap = h57 := e81q
      have k81 : Go p e below m W T81 274 #[.val (.int p1), .val (.int p2), .val (.int p3), .val (.int p4), .val (.int (0 : Int32)), .val (.int u24_S0), .val (.int (0 : Int32)), .val (.ref ro_33), .val (.ref ro_37), .val (.ref b42), .val (.ref b42), .val (.ref b42), .val (.ref ro_33), .val (.int (1 : Int32)), .val .null] [(.int (0 : Int32))] := k81
      have k82 : Go p e below m W T81 284 #[.val (.int p1), .val (.int p2), .val (.int p3), .val (.int p4), .val (.int (0 : Int32)), .val (.int u24_S0), .val (.int (0 : Int32)), .val (.ref ro_33), .val (.ref ro_37), .val (.ref b42), .val (.ref b42), .val (.ref b42), .val (.ref ro_33), .val (.int (1 : Int32)), .val .null] [] := (((k81.ifNo X81 hx (hb hby at_274) (XT.i0_ne_f (by decide))).iconst X81 hx (hb hby at_277) (v := (1 : Int32)) rfl).goto X81 hx (hb hby at_278) (by decide) (by decide)).istore X81 hx (hb hby at_282) rfl
      have k83 : Go p e below m W T81 291 #[.val (.int p1), .val (.int p2), .val (.int p3), .val (.int p4), .val (.int (0 : Int32)), .val (.int u24_S0), .val (.int (0 : Int32)), .val (.ref ro_33), .val (.ref ro_37), .val (.ref b42), .val (.ref b42), .val (.ref b42), .val (.ref ro_33), .val (.int (1 : Int32)), .val .null] [(.ref b42)] := ((k82.iload X81 hx (hb hby at_284) rfl).ifNo X81 hx (hb hby at_286) (XT.i0_eq_f (by decide))).aload X81 hx (hb hby at_289) rfl rfl
      obtain ⟨T84, v84, L84, X84, Q84, k84⟩ := k83.virt (y := (⟨"com/example/ikat/ikat/core/LinkEdit", "maxVisits", "()Ljava/lang/Integer;"⟩ : MethodName)) (z := (⟨"com/example/ikat/ikat/core/LinkEdit", "maxVisits", "()Ljava/lang/Integer;"⟩ : MethodName)) (Wd := 0) (cells' := 15) (slots' := 78) (argsL := []) (rest := []) X81 hx hZ57 hown57 (by rw [hml]; rfl) (hv 107 rfl) (hv 108 rfl) (notFace_of_selects (args := #[]) (mvT hZ57 (hv 110 rfl))) (hv 110 rfl) (hv 109 rfl) (hv 111 rfl) (hv 39 rfl) (hb hby at_291) (by decide) (rmg5 l Z a0 hw [] b42 .null h57 n0 Z57 rfl q57_6) e81 q57_0 rfl rfl pd_rm0_7 rfl (Nat.le_of_eq rfl) (by decide) (by decide) rfl rfl (by decide) (by decide)
      obtain ⟨rfl, Nq84, e84q⟩ := Q84
      have N84 := Fr.app N81 Nq84
      have e84 : T84.heap = h57 := e84q
      have k84 : Go p e below m W T84 294 #[.val (.int p1), .val (.int p2), .val (.int p3), .val (.int p4), .val (.int (0 : Int32)), .val (.int u24_S0), .val (.int (0 : Int32)), .val (.ref ro_33), .val (.ref ro_37), .val (.ref b42), .val (.ref b42), .val (.ref b42), .val (.ref ro_33), .val (.int (1 : Int32)), .val .null] [.null] := k84
      have k85 : Go p e below m W T84 304 #[.val (.int p1), .val (.int p2), .val (.int p3), .val (.int p4), .val (.int (0 : Int32)), .val (.int u24_S0), .val (.int (0 : Int32)), .val (.ref ro_33), .val (.ref ro_37), .val (.ref b42), .val (.ref b42), .val (.ref b42), .val (.ref ro_33), .val (.int (1 : Int32)), .val .null] [] := (((k84.nonnullNo X84 hx (hb hby at_294) rfl).iconst X84 hx (hb hby at_297) (v := (1 : Int32)) rfl).goto X84 hx (hb hby at_298) (by decide) (by decide)).istore X84 hx (hb hby at_302) rfl
      have k86 : Go p e below m W T84 306 #[.val (.int p1), .val (.int p2), .val (.int p3), .val (.int p4), .val (.int (0 : Int32)), .val (.int u24_S0), .val (.int (0 : Int32)), .val (.ref ro_33), .val (.ref ro_37), .val (.ref b42), .val (.ref b42), .val (.ref b42), .val (.ref ro_33), .val (.int (1 : Int32)), .val .null] [(.int (1 : Int32))] := k85.iload X84 hx (hb hby at_304) rfl
      exact k86.ireturnNS X84 hx hZ57 own_EL hS57 (Nat.le_refl _) e84 (by rw [hh]; exact C57) (t := .boolean) Bd.returns (by simp) rfl (hb hby at_306) (BodyLoose.notSynchronized Bd) (by rw [e84]; exact ⟨rfl, N84⟩) (by decide) (by decide)
    ·
      have k87 : Go p e below m W s₁ 39 #[.val (.int p1), .val (.int p2), .val (.int p3), .val (.int p4), .val (.int (0 : Int32)), .val (.int u24_S0), .val (.int (1 : Int32)), .unset, .unset, .unset, .unset, .unset, .unset, .unset, .unset] [] := (((k29.ifNo X0 hx (hb hby at_29) (XT.i0_eq_f hc29_30)).iconst X0 hx (hb hby at_32) (v := (1 : Int32)) rfl).goto X0 hx (hb hby at_33) (by decide) (by decide)).istore X0 hx (hb hby at_37) rfl
      have k88 : Go p e below m W s₁ 43 #[.val (.int p1), .val (.int p2), .val (.int p3), .val (.int p4), .val (.int (0 : Int32)), .val (.int u24_S0), .val (.int (1 : Int32)), .unset, .unset, .unset, .unset, .unset, .unset, .unset, .unset] [(.int (p3 &&& (3 : Int32))), (.int p1)] := (((k87.iloadN X0 hx (hb hby at_39) rfl).iloadN X0 hx (hb hby at_40) rfl).iconst X0 hx (hb hby at_41) (v := (3 : Int32)) rfl).iand X0 hx (hb hby at_42)
      obtain ⟨T89, v89, L89, X89, Q89, D89, hS89, hZ89, hown89, k89⟩ := k88.statS (y := (⟨"com/example/ikat/ikat/core/LinkEditDestinationPinLaw", "str", "(II)Ljava/lang/String;"⟩ : MethodName)) (Wd := 0) (cells' := 6) (slots' := 12) (xs := []) (argsL := [(.int p1), (.int (p3 &&& (3 : Int32)))]) (rest := []) X0 hx hZ hown (by rw [hml]; rfl) (hv 0 rfl) (hv 1 rfl) (hv 3 rfl) (hv 2 rfl) (hb hby at_43) (by decide) hS0 hk0 own_EL C0.1 sf0 (rmst l Z a0 hw [] p1 (p3 &&& (3 : Int32)) cz h0 n0 Z0 O0 S_cz hcz) e0 rfl rfl pd_rm0_0 rfl (Nat.le_of_eq rfl) (by decide) (by decide) rfl rfl (by decide) (by decide)
      obtain ⟨ro_89, rfl, Nq89, Kq89, q89_0, q89_1, q89_2⟩ := Q89
      have N89 := Fr.app N0 Nq89
      obtain ⟨h89, e89⟩ : ∃ h, T89.heap = h := ⟨_, rfl⟩
      rw [e89] at Kq89 q89_0
      have Z89 : n0 ≤ h89.size := Nat.le_trans Z0 Kq89.1
      have f90 := O0.keep Kq89 (fun x q => absurd q List.not_mem_nil)
      have k89 : Go p e below m W T89 46 #[.val (.int p1), .val (.int p2), .val (.int p3), .val (.int p4), .val (.int (0 : Int32)), .val (.int u24_S0), .val (.int (1 : Int32)), .unset, .unset, .unset, .unset, .unset, .unset, .unset, .unset] [(.ref ro_89)] := k89
      rw [e89] at D89 hS89
      have C89 := C0.trans D89
      have k91 : Go p e below m W T89 48 #[.val (.int p1), .val (.int p2), .val (.int p3), .val (.int p4), .val (.int (0 : Int32)), .val (.int u24_S0), .val (.int (1 : Int32)), .val (.ref ro_89), .unset, .unset, .unset, .unset, .unset, .unset, .unset] [] := k89.astore X89 hx (hb hby at_46) rfl rfl
      have k92 : Go p e below m W T89 54 #[.val (.int p1), .val (.int p2), .val (.int p3), .val (.int p4), .val (.int (0 : Int32)), .val (.int u24_S0), .val (.int (1 : Int32)), .val (.ref ro_89), .unset, .unset, .unset, .unset, .unset, .unset, .unset] [(.int ((XT.ushr p3 (2 : Int32)) &&& (3 : Int32))), (.int p2)] := (((((k91.iloadN X89 hx (hb hby at_48) rfl).iloadN X89 hx (hb hby at_49) rfl).iconst X89 hx (hb hby at_50) (v := (2 : Int32)) rfl).iushr X89 hx (hb hby at_51)).iconst X89 hx (hb hby at_52) (v := (3 : Int32)) rfl).iand X89 hx (hb hby at_53)
      obtain ⟨T93, v93, L93, X93, Q93, D93, hS93, hZ93, hown93, k93⟩ := k92.statS (y := (⟨"com/example/ikat/ikat/core/LinkEditDestinationPinLaw", "str", "(II)Ljava/lang/String;"⟩ : MethodName)) (Wd := 0) (cells' := 12) (slots' := 24) (xs := []) (argsL := [(.int p2), (.int ((XT.ushr p3 (2 : Int32)) &&& (3 : Int32)))]) (rest := []) X89 hx hZ89 hown89 (by rw [hml]; rfl) (hv 0 rfl) (hv 1 rfl) (hv 3 rfl) (hv 2 rfl) (hb hby at_54) (by decide) hS89 (Nat.le_refl _) own_EL C89.1 sf0 (rmst l Z a0 hw [] p2 ((XT.ushr p3 (2 : Int32)) &&& (3 : Int32)) cz h89 n0 Z89 f90 S_cz hcz) e89 rfl rfl pd_rm0_0 rfl (Nat.le_of_eq rfl) (by decide) (by decide) rfl rfl (by decide) (by decide)
      obtain ⟨ro_93, rfl, Nq93, Kq93, q93_0, q93_1, q93_2⟩ := Q93
      have N93 := Fr.app N89 Nq93
      obtain ⟨h93, e93⟩ : ∃ h, T93.heap = h := ⟨_, rfl⟩
      rw [e93] at Kq93 q93_0
      have Z93 : n0 ≤ h93.size := Nat.le_trans Z89 Kq93.1
      have f94 := f90.keep Kq93 (fun x q => absurd q List.not_mem_nil)
      have f95 := q89_0.keep Kq93
      have ne96_ro_89 : ro_89 ≠ ro_93 := Nat.ne_of_lt (Nat.lt_of_lt_of_le q89_0.lt q93_2)
      have k93 : Go p e below m W T93 57 #[.val (.int p1), .val (.int p2), .val (.int p3), .val (.int p4), .val (.int (0 : Int32)), .val (.int u24_S0), .val (.int (1 : Int32)), .val (.ref ro_89), .unset, .unset, .unset, .unset, .unset, .unset, .unset] [(.ref ro_93)] := k93
      rw [e93] at D93 hS93
      have C93 := C89.trans D93
      have k97 : Go p e below m W T93 59 #[.val (.int p1), .val (.int p2), .val (.int p3), .val (.int p4), .val (.int (0 : Int32)), .val (.int u24_S0), .val (.int (1 : Int32)), .val (.ref ro_89), .val (.ref ro_93), .unset, .unset, .unset, .unset, .unset, .unset] [] := k93.astore X93 hx (hb hby at_57) rfl rfl
      obtain ⟨T98, h98, b98, X98, e98, g98, E98, A98, D98, k98⟩ := k97.newO (cells' := 13) (slots' := 30) X93 hx hZ93 hown93 (hv 37 rfl) (hv 38 rfl) (hv 39 rfl) e93 (hb hby at_59) rfl rfl (by decide) (by decide)
      have k98 : Go p e below m W T98 62 #[.val (.int p1), .val (.int p2), .val (.int p3), .val (.int p4), .val (.int (0 : Int32)), .val (.int u24_S0), .val (.int (1 : Int32)), .val (.ref ro_89), .val (.ref ro_93), .unset, .unset, .unset, .unset, .unset, .unset] [(.ref b98)] := k98
      have Z98 : n0 ≤ h98.size := Nat.le_trans Z93 E98.1
      have ne98_ro_89 : ro_89 ≠ b98 := Nat.ne_of_lt (g98 ▸ f95.lt)
      have ne98_ro_93 : ro_93 ≠ b98 := Nat.ne_of_lt (g98 ▸ q93_0.lt)
      have f99 := f94.ext E98
      have f100 := f95.ext E98
      have f101 := q93_0.ext E98
      have G98 : n0 ≤ b98 := g98 ▸ Z93
      have DC98 := CHr.ext E98 C93.1
      have C98 := C93.trans DC98
      have hk98 : _ ≤ h98.size := Nat.le_trans (Nat.le_refl _) DC98.2.1
      have sf102 := Safe.ext E98 C93.1 (Safe.new (x := b98) (Nat.le_of_eq g98.symm))
      have f103 : Fld Z h98 b98 "com/example/ikat/ikat/core/LinkEdit" "paused" "Ljava/lang/Boolean;" .null := D98 (Or.inl (hv 55 rfl)) (ty := (.object "java/lang/Boolean")) (by decide)
      have f104 : Fld Z h98 b98 "com/example/ikat/ikat/core/LinkEdit" "destination" "Ljava/lang/String;" .null := D98 (Or.inl (hv 68 rfl)) (ty := (.object "java/lang/String")) (by decide)
      have f105 : Fld Z h98 b98 "com/example/ikat/ikat/core/LinkEdit" "changesExpiry" "Z" (.int (0 : Int32)) := D98 (Or.inl (hv 92 rfl)) (ty := .boolean) (by decide)
      have f106 : Fld Z h98 b98 "com/example/ikat/ikat/core/LinkEdit" "expiresAt" "Ljava/time/Instant;" .null := D98 (Or.inl (hv 99 rfl)) (ty := (.object "java/time/Instant")) (by decide)
      have f107 : Fld Z h98 b98 "com/example/ikat/ikat/core/LinkEdit" "changesMaxVisits" "Z" (.int (0 : Int32)) := D98 (Or.inl (hv 106 rfl)) (ty := .boolean) (by decide)
      have f108 : Fld Z h98 b98 "com/example/ikat/ikat/core/LinkEdit" "maxVisits" "Ljava/lang/Integer;" .null := D98 (Or.inl (hv 113 rfl)) (ty := (.object "java/lang/Integer")) (by decide)
      have k109 : Go p e below m W T98 63 #[.val (.int p1), .val (.int p2), .val (.int p3), .val (.int p4), .val (.int (0 : Int32)), .val (.int u24_S0), .val (.int (1 : Int32)), .val (.ref ro_89), .val (.ref ro_93), .unset, .unset, .unset, .unset, .unset, .unset] [(.ref b98), (.ref b98)] := k98.dup X98 hx (hb hby at_62) rfl
      obtain ⟨T110, v110, L110, X110, Q110, k110⟩ := k109.spec (y := (⟨"com/example/ikat/ikat/core/LinkEdit", "<init>", "()V"⟩ : MethodName)) (b := b98) (Wd := 1) (cells' := 13) (slots' := 30) (argsL := []) (rest := [(.ref b98)]) X98 hx hZ93 hown93 (by rw [hml]; rfl) rfl (hv 40 rfl) (hv 41 rfl) (hv 42 rfl) (hv 39 rfl) (hb hby at_63) (by decide) (rme l Z a0 hw [] b98 h98 n0 Z98) e98 rfl rfl pd_rm0_1 rfl (Nat.le_of_eq rfl) (by decide) (by decide) rfl rfl (by decide) (by decide)
      obtain ⟨rfl, Nq110, e110q⟩ := Q110
      have N110 := Fr.app N93 Nq110
      have e110 : T110.heap = h98 := e110q
      have k110 : Go p e below m W T110 66 #[.val (.int p1), .val (.int p2), .val (.int p3), .val (.int p4), .val (.int (0 : Int32)), .val (.int u24_S0), .val (.int (1 : Int32)), .val (.ref ro_89), .val (.ref ro_93), .unset, .unset, .unset, .unset, .unset, .unset] [(.ref b98)] := k110
      have k111 : Go p e below m W T110 68 #[.val (.int p1), .val (.int p2), .val (.int p3), .val (.int p4), .val (.int (0 : Int32)), .val (.int u24_S0), .val (.int (1 : Int32)), .val (.ref ro_89), .val (.ref ro_93), .val (.ref b98), .unset, .unset, .unset, .unset, .unset] [] := k110.astore X110 hx (hb hby at_66) rfl rfl
      have k112 : Go p e below m W T110 85 #[.val (.int p1), .val (.int p2), .val (.int p3), .val (.int p4), .val (.int (0 : Int32)), .val (.int u24_S0), .val (.int (1 : Int32)), .val (.ref ro_89), .val (.ref ro_93), .val (.ref b98), .unset, .unset, .unset, .unset, .unset] [(.ref ro_89), (.ref b98)] := (((k111.iload X110 hx (hb hby at_68) rfl).ifYes X110 hx (hb hby at_70) (XT.i0_eq_t (by decide)) (by decide) (by decide)).aload X110 hx (hb hby at_81) rfl rfl).aload X110 hx (hb hby at_83) rfl rfl
      obtain ⟨T113, v113, L113, X113, Q113, D113, hS113, hZ113, hown113, k113⟩ := k112.virtS (y := (⟨"com/example/ikat/ikat/core/LinkEdit", "destination", "(Ljava/lang/String;)Lcom/example/ikat/ikat/core/LinkEdit;"⟩ : MethodName)) (z := (⟨"com/example/ikat/ikat/core/LinkEdit", "destination", "(Ljava/lang/String;)Lcom/example/ikat/ikat/core/LinkEdit;"⟩ : MethodName)) (Wd := 0) (cells' := 15) (slots' := 78) (xs := []) (argsL := [(.ref ro_89)]) (rest := []) X110 hx hZ93 hown93 (by rw [hml]; rfl) (hv 56 rfl) (hv 57 rfl) (notFace_of_selects (args := #[]) (mvT (s := s.setVm T93.vm) hZ93 (hv 59 rfl))) (hv 59 rfl) (hv 58 rfl) (hv 60 rfl) (hv 39 rfl) (hb hby at_85) (by decide) hS93 hk98 own_EL C98.1 sf0 (rmsd l Z a0 hw [] b98 ro_89 .null .null (.int (0 : Int32)) .null (.int (0 : Int32)) .null h98 n0 Z98 A98 G98 f100 f104 f103 f105 f106 f107 f108) e110 A98 rfl rfl pd_rm0_2 rfl (Nat.le_of_eq rfl) (by decide) (by decide) rfl rfl (by decide) (by decide)
      obtain ⟨rfl, Nq113, Kq113, q113_0, q113_1, q113_2, q113_3, q113_4, q113_5, q113_6⟩ := Q113
      have N113 := Fr.app N110 Nq113
      obtain ⟨h113, e113⟩ : ∃ h, T113.heap = h := ⟨_, rfl⟩
      rw [e113] at Kq113 q113_0 q113_1 q113_2 q113_3 q113_4 q113_5 q113_6
      have Z113 : n0 ≤ h113.size := Nat.le_trans Z98 Kq113.1
      have f114 := f99.keep Kq113 (by intro x q; simp only [List.mem_cons, List.not_mem_nil, or_false] at q; rcases q with rfl; exact G98)
      have f115 := f100.keep Kq113
      have f116 := f101.keep Kq113
      have f117 := A98.keep Kq113
      have k113 : Go p e below m W T113 88 #[.val (.int p1), .val (.int p2), .val (.int p3), .val (.int p4), .val (.int (0 : Int32)), .val (.int u24_S0), .val (.int (1 : Int32)), .val (.ref ro_89), .val (.ref ro_93), .val (.ref b98), .unset, .unset, .unset, .unset, .unset] [(.ref b98)] := k113
      rw [e113] at D113 hS113
      have C113 := C98.trans D113
      have sf118 := D113.safe A98.lt sf102
      have k119 : Go p e below m W T113 90 #[.val (.int p1), .val (.int p2), .val (.int p3), .val (.int p4), .val (.int (0 : Int32)), .val (.int u24_S0), .val (.int (1 : Int32)), .val (.ref ro_89), .val (.ref ro_93), .val (.ref b98), .val (.ref b98), .unset, .unset, .unset, .unset] [] := k113.astore X113 hx (hb hby at_88) rfl rfl
      have k120 : Go p e below m W T113 94 #[.val (.int p1), .val (.int p2), .val (.int p3), .val (.int p4), .val (.int (0 : Int32)), .val (.int u24_S0), .val (.int (1 : Int32)), .val (.ref ro_89), .val (.ref ro_93), .val (.ref b98), .val (.ref b98), .val (.ref b98), .unset, .unset, .unset] [] := (k119.aload X113 hx (hb hby at_90) rfl rfl).astore X113 hx (hb hby at_92) rfl rfl
      have k121 : Go p e below m W T113 103 #[.val (.int p1), .val (.int p2), .val (.int p3), .val (.int p4), .val (.int (0 : Int32)), .val (.int u24_S0), .val (.int (1 : Int32)), .val (.ref ro_89), .val (.ref ro_93), .val (.ref b98), .val (.ref b98), .val (.ref b98), .unset, .unset, .unset] [(.ref ro_93), (.ref b98)] := (((k120.iload X113 hx (hb hby at_94) rfl).ifNo X113 hx (hb hby at_96) (XT.i0_eq_f (by decide))).aload X113 hx (hb hby at_99) rfl rfl).aload X113 hx (hb hby at_101) rfl rfl
      obtain ⟨T122, v122, L122, X122, Q122, D122, hS122, hZ122, hown122, k122⟩ := k121.virtS (y := (⟨"com/example/ikat/ikat/core/LinkEdit", "destination", "(Ljava/lang/String;)Lcom/example/ikat/ikat/core/LinkEdit;"⟩ : MethodName)) (z := (⟨"com/example/ikat/ikat/core/LinkEdit", "destination", "(Ljava/lang/String;)Lcom/example/ikat/ikat/core/LinkEdit;"⟩ : MethodName)) (Wd := 0) (cells' := 17) (slots' := 126) (xs := []) (argsL := [(.ref ro_93)]) (rest := []) X113 hx hZ113 hown113 (by rw [hml]; rfl) (hv 56 rfl) (hv 57 rfl) (notFace_of_selects (args := #[]) (mvT (s := s.setVm T113.vm) hZ113 (hv 59 rfl))) (hv 59 rfl) (hv 58 rfl) (hv 60 rfl) (hv 39 rfl) (hb hby at_103) (by decide) hS113 (Nat.le_refl _) own_EL C113.1 sf0 (rmsd l Z a0 hw [] b98 ro_93 (.ref ro_89) .null (.int (0 : Int32)) .null (.int (0 : Int32)) .null h113 n0 Z113 q113_0 G98 f116 q113_1 q113_2 q113_3 q113_4 q113_5 q113_6) e113 q113_0 rfl rfl pd_rm0_2 rfl (Nat.le_of_eq rfl) (by decide) (by decide) rfl rfl (by decide) (by decide)
      obtain ⟨rfl, Nq122, Kq122, q122_0, q122_1, q122_2, q122_3, q122_4, q122_5, q122_6⟩ := Q122
      have N122 := Fr.app N113 Nq122
      obtain ⟨h122, e122⟩ : ∃ h, T122.heap = h := ⟨_, rfl⟩
      rw [e122] at Kq122 q122_0 q122_1 q122_2 q122_3 q122_4 q122_5 q122_6
      have Z122 : n0 ≤ h122.size := Nat.le_trans Z113 Kq122.1
      have f123 := f114.keep Kq122 (by intro x q; simp only [List.mem_cons, List.not_mem_nil, or_false] at q; rcases q with rfl; exact G98)
      have f124 := f115.keep Kq122
      have f125 := f116.keep Kq122
      have f126 := q113_0.keep Kq122
      have k122 : Go p e below m W T122 106 #[.val (.int p1), .val (.int p2), .val (.int p3), .val (.int p4), .val (.int (0 : Int32)), .val (.int u24_S0), .val (.int (1 : Int32)), .val (.ref ro_89), .val (.ref ro_93), .val (.ref b98), .val (.ref b98), .val (.ref b98), .unset, .unset, .unset] [(.ref b98)] := k122
      rw [e122] at D122 hS122
      have C122 := C113.trans D122
      have sf127 := D122.safe q113_0.lt sf118
      have k128 : Go p e below m W T122 108 #[.val (.int p1), .val (.int p2), .val (.int p3), .val (.int p4), .val (.int (0 : Int32)), .val (.int u24_S0), .val (.int (1 : Int32)), .val (.ref ro_89), .val (.ref ro_93), .val (.ref b98), .val (.ref b98), .val (.ref b98), .unset, .unset, .unset] [] := k122.astore X122 hx (hb hby at_106) rfl rfl
      have k129 : Go p e below m W T122 122 #[.val (.int p1), .val (.int p2), .val (.int p3), .val (.int p4), .val (.int (0 : Int32)), .val (.int u24_S0), .val (.int (1 : Int32)), .val (.ref ro_89), .val (.ref ro_93), .val (.ref b98), .val (.ref b98), .val (.ref b98), .val (.ref ro_93), .unset, .unset] [] := ((((k128.iload X122 hx (hb hby at_108) rfl).ifNo X122 hx (hb hby at_110) (XT.i0_eq_f (by decide))).aload X122 hx (hb hby at_113) rfl rfl).goto X122 hx (hb hby at_115) (by decide) (by decide)).astore X122 hx (hb hby at_120) rfl rfl
      have k130 : Go p e below m W T122 143 #[.val (.int p1), .val (.int p2), .val (.int p3), .val (.int p4), .val (.int (0 : Int32)), .val (.int u24_S0), .val (.int (1 : Int32)), .val (.ref ro_89), .val (.ref ro_93), .val (.ref b98), .val (.ref b98), .val (.ref b98), .val (.ref ro_93), .val (.int (1 : Int32)), .unset] [] := ((((((((k129.aload X122 hx (hb hby at_122) rfl rfl).aload X122 hx (hb hby at_124) rfl rfl).acmpNo X122 hx (hb hby at_126) rfl rfl (XT.aa_ne_f rfl)).aload X122 hx (hb hby at_129) rfl rfl).aload X122 hx (hb hby at_131) rfl rfl).acmpNo X122 hx (hb hby at_133) rfl rfl (XT.aa_ne_f rfl)).iconst X122 hx (hb hby at_136) (v := (1 : Int32)) rfl).goto X122 hx (hb hby at_137) (by decide) (by decide)).istore X122 hx (hb hby at_141) rfl
      have k131 : Go p e below m W T122 150 #[.val (.int p1), .val (.int p2), .val (.int p3), .val (.int p4), .val (.int (0 : Int32)), .val (.int u24_S0), .val (.int (1 : Int32)), .val (.ref ro_89), .val (.ref ro_93), .val (.ref b98), .val (.ref b98), .val (.ref b98), .val (.ref ro_93), .val (.int (1 : Int32)), .unset] [(.ref b98)] := ((k130.iload X122 hx (hb hby at_143) rfl).ifNo X122 hx (hb hby at_145) (XT.i0_eq_f (by decide))).aload X122 hx (hb hby at_148) rfl rfl
      obtain ⟨T132, v132, L132, X132, Q132, k132⟩ := k131.virt (y := (⟨"com/example/ikat/ikat/core/LinkEdit", "destination", "()Ljava/lang/String;"⟩ : MethodName)) (z := (⟨"com/example/ikat/ikat/core/LinkEdit", "destination", "()Ljava/lang/String;"⟩ : MethodName)) (Wd := 0) (cells' := 17) (slots' := 126) (argsL := []) (rest := []) X122 hx hZ122 hown122 (by rw [hml]; rfl) (hv 69 rfl) (hv 70 rfl) (notFace_of_selects (args := #[]) (mvT hZ122 (hv 72 rfl))) (hv 72 rfl) (hv 71 rfl) (hv 73 rfl) (hv 39 rfl) (hb hby at_150) (by decide) (rmg0 l Z a0 hw [] b98 (.ref ro_93) h122 n0 Z122 rfl q122_1) e122 q122_0 rfl rfl pd_rm0_3 rfl (Nat.le_of_eq rfl) (by decide) (by decide) rfl rfl (by decide) (by decide)
      obtain ⟨rfl, Nq132, e132q⟩ := Q132
      have N132 := Fr.app N122 Nq132
      have e132 : T132.heap = h122 := e132q
      have k132 : Go p e below m W T132 153 #[.val (.int p1), .val (.int p2), .val (.int p3), .val (.int p4), .val (.int (0 : Int32)), .val (.int u24_S0), .val (.int (1 : Int32)), .val (.ref ro_89), .val (.ref ro_93), .val (.ref b98), .val (.ref b98), .val (.ref b98), .val (.ref ro_93), .val (.int (1 : Int32)), .unset] [(.ref ro_93)] := k132
      have k133 : Go p e below m W T132 165 #[.val (.int p1), .val (.int p2), .val (.int p3), .val (.int p4), .val (.int (0 : Int32)), .val (.int u24_S0), .val (.int (1 : Int32)), .val (.ref ro_89), .val (.ref ro_93), .val (.ref b98), .val (.ref b98), .val (.ref b98), .val (.ref ro_93), .val (.int (1 : Int32)), .unset] [] := ((((k132.aload X132 hx (hb hby at_153) rfl rfl).acmpNo X132 hx (hb hby at_155) rfl rfl (XT.aa_ne_f rfl)).iconst X132 hx (hb hby at_158) (v := (1 : Int32)) rfl).goto X132 hx (hb hby at_159) (by decide) (by decide)).istore X132 hx (hb hby at_163) rfl
      have k134 : Go p e below m W T132 167 #[.val (.int p1), .val (.int p2), .val (.int p3), .val (.int p4), .val (.int (0 : Int32)), .val (.int u24_S0), .val (.int (1 : Int32)), .val (.ref ro_89), .val (.ref ro_93), .val (.ref b98), .val (.ref b98), .val (.ref b98), .val (.ref ro_93), .val (.int (1 : Int32)), .unset] [(.ref b98)] := k133.aload X132 hx (hb hby at_165) rfl rfl
      obtain ⟨T135, v135, L135, X135, Q135, k135⟩ := k134.virt (y := (⟨"com/example/ikat/ikat/core/LinkEdit", "paused", "()Ljava/lang/Boolean;"⟩ : MethodName)) (z := (⟨"com/example/ikat/ikat/core/LinkEdit", "paused", "()Ljava/lang/Boolean;"⟩ : MethodName)) (Wd := 0) (cells' := 17) (slots' := 126) (argsL := []) (rest := []) X132 hx hZ122 hown122 (by rw [hml]; rfl) (hv 74 rfl) (hv 75 rfl) (notFace_of_selects (args := #[]) (mvT hZ122 (hv 77 rfl))) (hv 77 rfl) (hv 76 rfl) (hv 78 rfl) (hv 39 rfl) (hb hby at_167) (by decide) (rmg1 l Z a0 hw [] b98 .null h122 n0 Z122 rfl q122_2) e132 q122_0 rfl rfl pd_rm0_4 rfl (Nat.le_of_eq rfl) (by decide) (by decide) rfl rfl (by decide) (by decide)
      obtain ⟨rfl, Nq135, e135q⟩ := Q135
      have N135 := Fr.app N132 Nq135
      have e135 : T135.heap = h122 := e135q
      have k135 : Go p e below m W T135 170 #[.val (.int p1), .val (.int p2), .val (.int p3), .val (.int p4), .val (.int (0 : Int32)), .val (.int u24_S0), .val (.int (1 : Int32)), .val (.ref ro_89), .val (.ref ro_93), .val (.ref b98), .val (.ref b98), .val (.ref b98), .val (.ref ro_93), .val (.int (1 : Int32)), .unset] [.null] := k135
      have k136 : Go p e below m W T135 172 #[.val (.int p1), .val (.int p2), .val (.int p3), .val (.int p4), .val (.int (0 : Int32)), .val (.int u24_S0), .val (.int (1 : Int32)), .val (.ref ro_89), .val (.ref ro_93), .val (.ref b98), .val (.ref b98), .val (.ref b98), .val (.ref ro_93), .val (.int (1 : Int32)), .val .null] [] := k135.astore X135 hx (hb hby at_170) rfl rfl
      have k137 : Go p e below m W T135 224 #[.val (.int p1), .val (.int p2), .val (.int p3), .val (.int p4), .val (.int (0 : Int32)), .val (.int u24_S0), .val (.int (1 : Int32)), .val (.ref ro_89), .val (.ref ro_93), .val (.ref b98), .val (.ref b98), .val (.ref b98), .val (.ref ro_93), .val (.int (1 : Int32)), .val .null] [] := ((((((((k136.iload X135 hx (hb hby at_172) rfl).ifYes X135 hx (hb hby at_174) (XT.i0_eq_t (by decide)) (by decide) (by decide)).iload X135 hx (hb hby at_207) rfl).ifNo X135 hx (hb hby at_209) (XT.i0_eq_f (by decide))).aload X135 hx (hb hby at_212) rfl rfl).nonnullNo X135 hx (hb hby at_214) rfl).iconst X135 hx (hb hby at_217) (v := (1 : Int32)) rfl).goto X135 hx (hb hby at_218) (by decide) (by decide)).istore X135 hx (hb hby at_222) rfl
      have k138 : Go p e below m W T135 231 #[.val (.int p1), .val (.int p2), .val (.int p3), .val (.int p4), .val (.int (0 : Int32)), .val (.int u24_S0), .val (.int (1 : Int32)), .val (.ref ro_89), .val (.ref ro_93), .val (.ref b98), .val (.ref b98), .val (.ref b98), .val (.ref ro_93), .val (.int (1 : Int32)), .val .null] [(.ref b98)] := ((k137.iload X135 hx (hb hby at_224) rfl).ifNo X135 hx (hb hby at_226) (XT.i0_eq_f (by decide))).aload X135 hx (hb hby at_229) rfl rfl
      obtain ⟨T139, v139, L139, X139, Q139, k139⟩ := k138.virt (y := (⟨"com/example/ikat/ikat/core/LinkEdit", "changesExpiry", "()Z"⟩ : MethodName)) (z := (⟨"com/example/ikat/ikat/core/LinkEdit", "changesExpiry", "()Z"⟩ : MethodName)) (Wd := 0) (cells' := 17) (slots' := 126) (argsL := []) (rest := []) X135 hx hZ122 hown122 (by rw [hml]; rfl) (hv 86 rfl) (hv 87 rfl) (notFace_of_selects (args := #[]) (mvT hZ122 (hv 89 rfl))) (hv 89 rfl) (hv 88 rfl) (hv 90 rfl) (hv 39 rfl) (hb hby at_231) (by decide) (rmg2 l Z a0 hw [] b98 (0 : Int32) h122 n0 Z122 (Or.inl rfl) q122_3) e135 q122_0 rfl rfl pd_rm0_5 rfl (Nat.le_of_eq rfl) (by decide) (by decide) rfl rfl (by decide) (by decide)
      obtain ⟨rfl, Nq139, e139q⟩ := Q139
      have N139 := Fr.app N135 Nq139
      have e139 : T139.heap = h122 := e139q
      have k139 : Go p e below m W T139 234 #[.val (.int p1), .val (.int p2), .val (.int p3), .val (.int p4), .val (.int (0 : Int32)), .val (.int u24_S0), .val (.int (1 : Int32)), .val (.ref ro_89), .val (.ref ro_93), .val (.ref b98), .val (.ref b98), .val (.ref b98), .val (.ref ro_93), .val (.int (1 : Int32)), .val .null] [(.int (0 : Int32))] := k139
      have k140 : Go p e below m W T139 244 #[.val (.int p1), .val (.int p2), .val (.int p3), .val (.int p4), .val (.int (0 : Int32)), .val (.int u24_S0), .val (.int (1 : Int32)), .val (.ref ro_89), .val (.ref ro_93), .val (.ref b98), .val (.ref b98), .val (.ref b98), .val (.ref ro_93), .val (.int (1 : Int32)), .val .null] [] := (((k139.ifNo X139 hx (hb hby at_234) (XT.i0_ne_f (by decide))).iconst X139 hx (hb hby at_237) (v := (1 : Int32)) rfl).goto X139 hx (hb hby at_238) (by decide) (by decide)).istore X139 hx (hb hby at_242) rfl
      have k141 : Go p e below m W T139 251 #[.val (.int p1), .val (.int p2), .val (.int p3), .val (.int p4), .val (.int (0 : Int32)), .val (.int u24_S0), .val (.int (1 : Int32)), .val (.ref ro_89), .val (.ref ro_93), .val (.ref b98), .val (.ref b98), .val (.ref b98), .val (.ref ro_93), .val (.int (1 : Int32)), .val .null] [(.ref b98)] := ((k140.iload X139 hx (hb hby at_244) rfl).ifNo X139 hx (hb hby at_246) (XT.i0_eq_f (by decide))).aload X139 hx (hb hby at_249) rfl rfl
      obtain ⟨T142, v142, L142, X142, Q142, k142⟩ := k141.virt (y := (⟨"com/example/ikat/ikat/core/LinkEdit", "expiresAt", "()Ljava/time/Instant;"⟩ : MethodName)) (z := (⟨"com/example/ikat/ikat/core/LinkEdit", "expiresAt", "()Ljava/time/Instant;"⟩ : MethodName)) (Wd := 0) (cells' := 17) (slots' := 126) (argsL := []) (rest := []) X139 hx hZ122 hown122 (by rw [hml]; rfl) (hv 93 rfl) (hv 94 rfl) (notFace_of_selects (args := #[]) (mvT hZ122 (hv 96 rfl))) (hv 96 rfl) (hv 95 rfl) (hv 97 rfl) (hv 39 rfl) (hb hby at_251) (by decide) (rmg3 l Z a0 hw [] b98 .null h122 n0 Z122 rfl q122_4) e139 q122_0 rfl rfl pd_rm0_6 rfl (Nat.le_of_eq rfl) (by decide) (by decide) rfl rfl (by decide) (by decide)
      obtain ⟨rfl, Nq142, e142q⟩ := Q142
      have N142 := Fr.app N139 Nq142
      have e142 : T142.heap = h122 := e142q
      have k142 : Go p e below m W T142 254 #[.val (.int p1), .val (.int p2), .val (.int p3), .val (.int p4), .val (.int (0 : Int32)), .val (.int u24_S0), .val (.int (1 : Int32)), .val (.ref ro_89), .val (.ref ro_93), .val (.ref b98), .val (.ref b98), .val (.ref b98), .val (.ref ro_93), .val (.int (1 : Int32)), .val .null] [.null] := k142
      have k143 : Go p e below m W T142 264 #[.val (.int p1), .val (.int p2), .val (.int p3), .val (.int p4), .val (.int (0 : Int32)), .val (.int u24_S0), .val (.int (1 : Int32)), .val (.ref ro_89), .val (.ref ro_93), .val (.ref b98), .val (.ref b98), .val (.ref b98), .val (.ref ro_93), .val (.int (1 : Int32)), .val .null] [] := (((k142.nonnullNo X142 hx (hb hby at_254) rfl).iconst X142 hx (hb hby at_257) (v := (1 : Int32)) rfl).goto X142 hx (hb hby at_258) (by decide) (by decide)).istore X142 hx (hb hby at_262) rfl
      have k144 : Go p e below m W T142 271 #[.val (.int p1), .val (.int p2), .val (.int p3), .val (.int p4), .val (.int (0 : Int32)), .val (.int u24_S0), .val (.int (1 : Int32)), .val (.ref ro_89), .val (.ref ro_93), .val (.ref b98), .val (.ref b98), .val (.ref b98), .val (.ref ro_93), .val (.int (1 : Int32)), .val .null] [(.ref b98)] := ((k143.iload X142 hx (hb hby at_264) rfl).ifNo X142 hx (hb hby at_266) (XT.i0_eq_f (by decide))).aload X142 hx (hb hby at_269) rfl rfl
      obtain ⟨T145, v145, L145, X145, Q145, k145⟩ := k144.virt (y := (⟨"com/example/ikat/ikat/core/LinkEdit", "changesMaxVisits", "()Z"⟩ : MethodName)) (z := (⟨"com/example/ikat/ikat/core/LinkEdit", "changesMaxVisits", "()Z"⟩ : MethodName)) (Wd := 0) (cells' := 17) (slots' := 126) (argsL := []) (rest := []) X142 hx hZ122 hown122 (by rw [hml]; rfl) (hv 100 rfl) (hv 101 rfl) (notFace_of_selects (args := #[]) (mvT hZ122 (hv 103 rfl))) (hv 103 rfl) (hv 102 rfl) (hv 104 rfl) (hv 39 rfl) (hb hby at_271) (by decide) (rmg4 l Z a0 hw [] b98 (0 : Int32) h122 n0 Z122 (Or.inl rfl) q122_5) e142 q122_0 rfl rfl pd_rm0_5 rfl (Nat.le_of_eq rfl) (by decide) (by decide) rfl rfl (by decide) (by decide)
      obtain ⟨rfl, Nq145, e145q⟩ := Q145
      have N145 := Fr.app N142 Nq145
      have e145 : T145.heap = h122 := e145q
      have k145 : Go p e below m W T145 274 #[.val (.int p1), .val (.int p2), .val (.int p3), .val (.int p4), .val (.int (0 : Int32)), .val (.int u24_S0), .val (.int (1 : Int32)), .val (.ref ro_89), .val (.ref ro_93), .val (.ref b98), .val (.ref b98), .val (.ref b98), .val (.ref ro_93), .val (.int (1 : Int32)), .val .null] [(.int (0 : Int32))] := k145
      have k146 : Go p e below m W T145 284 #[.val (.int p1), .val (.int p2), .val (.int p3), .val (.int p4), .val (.int (0 : Int32)), .val (.int u24_S0), .val (.int (1 : Int32)), .val (.ref ro_89), .val (.ref ro_93), .val (.ref b98), .val (.ref b98), .val (.ref b98), .val (.ref ro_93), .val (.int (1 : Int32)), .val .null] [] := (((k145.ifNo X145 hx (hb hby at_274) (XT.i0_ne_f (by decide))).iconst X145 hx (hb hby at_277) (v := (1 : Int32)) rfl).goto X145 hx (hb hby at_278) (by decide) (by decide)).istore X145 hx (hb hby at_282) rfl
      have k147 : Go p e below m W T145 291 #[.val (.int p1), .val (.int p2), .val (.int p3), .val (.int p4), .val (.int (0 : Int32)), .val (.int u24_S0), .val (.int (1 : Int32)), .val (.ref ro_89), .val (.ref ro_93), .val (.ref b98), .val (.ref b98), .val (.ref b98), .val (.ref ro_93), .val (.int (1 : Int32)), .val .null] [(.ref b98)] := ((k146.iload X145 hx (hb hby at_284) rfl).ifNo X145 hx (hb hby at_286) (XT.i0_eq_f (by decide))).aload X145 hx (hb hby at_289) rfl rfl
      obtain ⟨T148, v148, L148, X148, Q148, k148⟩ := k147.virt (y := (⟨"com/example/ikat/ikat/core/LinkEdit", "maxVisits", "()Ljava/lang/Integer;"⟩ : MethodName)) (z := (⟨"com/example/ikat/ikat/core/LinkEdit", "maxVisits", "()Ljava/lang/Integer;"⟩ : MethodName)) (Wd := 0) (cells' := 17) (slots' := 126) (argsL := []) (rest := []) X145 hx hZ122 hown122 (by rw [hml]; rfl) (hv 107 rfl) (hv 108 rfl) (notFace_of_selects (args := #[]) (mvT hZ122 (hv 110 rfl))) (hv 110 rfl) (hv 109 rfl) (hv 111 rfl) (hv 39 rfl) (hb hby at_291) (by decide) (rmg5 l Z a0 hw [] b98 .null h122 n0 Z122 rfl q122_6) e145 q122_0 rfl rfl pd_rm0_7 rfl (Nat.le_of_eq rfl) (by decide) (by decide) rfl rfl (by decide) (by decide)
      obtain ⟨rfl, Nq148, e148q⟩ := Q148
      have N148 := Fr.app N145 Nq148
      have e148 : T148.heap = h122 := e148q
      have k148 : Go p e below m W T148 294 #[.val (.int p1), .val (.int p2), .val (.int p3), .val (.int p4), .val (.int (0 : Int32)), .val (.int u24_S0), .val (.int (1 : Int32)), .val (.ref ro_89), .val (.ref ro_93), .val (.ref b98), .val (.ref b98), .val (.ref b98), .val (.ref ro_93), .val (.int (1 : Int32)), .val .null] [.null] := k148
      have k149 : Go p e below m W T148 304 #[.val (.int p1), .val (.int p2), .val (.int p3), .val (.int p4), .val (.int (0 : Int32)), .val (.int u24_S0), .val (.int (1 : Int32)), .val (.ref ro_89), .val (.ref ro_93), .val (.ref b98), .val (.ref b98), .val (.ref b98), .val (.ref ro_93), .val (.int (1 : Int32)), .val .null] [] := (((k148.nonnullNo X148 hx (hb hby at_294) rfl).iconst X148 hx (hb hby at_297) (v := (1 : Int32)) rfl).goto X148 hx (hb hby at_298) (by decide) (by decide)).istore X148 hx (hb hby at_302) rfl
      have k150 : Go p e below m W T148 306 #[.val (.int p1), .val (.int p2), .val (.int p3), .val (.int p4), .val (.int (0 : Int32)), .val (.int u24_S0), .val (.int (1 : Int32)), .val (.ref ro_89), .val (.ref ro_93), .val (.ref b98), .val (.ref b98), .val (.ref b98), .val (.ref ro_93), .val (.int (1 : Int32)), .val .null] [(.int (1 : Int32))] := k149.iload X148 hx (hb hby at_304) rfl
      exact k150.ireturnNS X148 hx hZ122 own_EL hS122 (Nat.le_refl _) e148 (by rw [hh]; exact C122) (t := .boolean) Bd.returns (by simp) rfl (hb hby at_306) (BodyLoose.notSynchronized Bd) (by rw [e148]; exact ⟨rfl, N148⟩) (by decide) (by decide)
  ·
    have k151 : Go p e below m W s₁ 13 #[.val (.int p1), .val (.int p2), .val (.int p3), .val (.int p4), .val (.int (1 : Int32)), .unset, .unset, .unset, .unset, .unset, .unset, .unset, .unset, .unset, .unset] [] := (((k20.ifNo X0 hx (hb hby at_3) (XT.i0_eq_f hc3_21)).iconst X0 hx (hb hby at_6) (v := (1 : Int32)) rfl).goto X0 hx (hb hby at_7) (by decide) (by decide)).istore X0 hx (hb hby at_11) rfl
    have k152 : Go p e below m W s₁ 16 #[.val (.int p1), .val (.int p2), .val (.int p3), .val (.int p4), .val (.int (1 : Int32)), .unset, .unset, .unset, .unset, .unset, .unset, .unset, .unset, .unset, .unset] [(.int (p4 &&& (2 : Int32)))] := ((k151.iloadN X0 hx (hb hby at_13) rfl).iconst X0 hx (hb hby at_14) (v := (2 : Int32)) rfl).iand X0 hx (hb hby at_15)
    obtain ⟨u153_S0, hd153, k153⟩ : ∃ (u153_S0 : Int32), ((((p4 &&& (2 : Int32)) = (0 : Int32)) ∧ u153_S0 = (0 : Int32)) ∨ ((¬ ((p4 &&& (2 : Int32)) = (0 : Int32))) ∧ u153_S0 = (1 : Int32))) ∧ Go p e below m W s₁ 24 #[.val (.int p1), .val (.int p2), .val (.int p3), .val (.int p4), .val (.int (1 : Int32)), .unset, .unset, .unset, .unset, .unset, .unset, .unset, .unset, .unset, .unset] [(.int u153_S0)] := by
      by_cases hc16_154 : (p4 &&& (2 : Int32)) = (0 : Int32)
      ·
        have k155 : Go p e below m W s₁ 24 #[.val (.int p1), .val (.int p2), .val (.int p3), .val (.int p4), .val (.int (1 : Int32)), .unset, .unset, .unset, .unset, .unset, .unset, .unset, .unset, .unset, .unset] [(.int (0 : Int32))] := (k152.ifYes X0 hx (hb hby at_16) (XT.i0_eq_t hc16_154) (by decide) (by decide)).iconst X0 hx (hb hby at_23) (v := (0 : Int32)) rfl
        exact ⟨(0 : Int32), (Or.inl ⟨hc16_154, rfl⟩), k155⟩
      ·
        have k156 : Go p e below m W s₁ 24 #[.val (.int p1), .val (.int p2), .val (.int p3), .val (.int p4), .val (.int (1 : Int32)), .unset, .unset, .unset, .unset, .unset, .unset, .unset, .unset, .unset, .unset] [(.int (1 : Int32))] := ((k152.ifNo X0 hx (hb hby at_16) (XT.i0_eq_f hc16_154)).iconst X0 hx (hb hby at_19) (v := (1 : Int32)) rfl).goto X0 hx (hb hby at_20) (by decide) (by decide)
        exact ⟨(1 : Int32), (Or.inr ⟨hc16_154, rfl⟩), k156⟩
    have k157 : Go p e below m W s₁ 26 #[.val (.int p1), .val (.int p2), .val (.int p3), .val (.int p4), .val (.int (1 : Int32)), .val (.int u153_S0), .unset, .unset, .unset, .unset, .unset, .unset, .unset, .unset, .unset] [] := k153.istore X0 hx (hb hby at_24) rfl
    have k158 : Go p e below m W s₁ 29 #[.val (.int p1), .val (.int p2), .val (.int p3), .val (.int p4), .val (.int (1 : Int32)), .val (.int u153_S0), .unset, .unset, .unset, .unset, .unset, .unset, .unset, .unset, .unset] [(.int (p4 &&& (4 : Int32)))] := ((k157.iloadN X0 hx (hb hby at_26) rfl).iconst X0 hx (hb hby at_27) (v := (4 : Int32)) rfl).iand X0 hx (hb hby at_28)
    by_cases hc29_159 : (p4 &&& (4 : Int32)) = (0 : Int32)
    ·
      have k160 : Go p e below m W s₁ 39 #[.val (.int p1), .val (.int p2), .val (.int p3), .val (.int p4), .val (.int (1 : Int32)), .val (.int u153_S0), .val (.int (0 : Int32)), .unset, .unset, .unset, .unset, .unset, .unset, .unset, .unset] [] := ((k158.ifYes X0 hx (hb hby at_29) (XT.i0_eq_t hc29_159) (by decide) (by decide)).iconst X0 hx (hb hby at_36) (v := (0 : Int32)) rfl).istore X0 hx (hb hby at_37) rfl
      have k161 : Go p e below m W s₁ 43 #[.val (.int p1), .val (.int p2), .val (.int p3), .val (.int p4), .val (.int (1 : Int32)), .val (.int u153_S0), .val (.int (0 : Int32)), .unset, .unset, .unset, .unset, .unset, .unset, .unset, .unset] [(.int (p3 &&& (3 : Int32))), (.int p1)] := (((k160.iloadN X0 hx (hb hby at_39) rfl).iloadN X0 hx (hb hby at_40) rfl).iconst X0 hx (hb hby at_41) (v := (3 : Int32)) rfl).iand X0 hx (hb hby at_42)
      obtain ⟨T162, v162, L162, X162, Q162, D162, hS162, hZ162, hown162, k162⟩ := k161.statS (y := (⟨"com/example/ikat/ikat/core/LinkEditDestinationPinLaw", "str", "(II)Ljava/lang/String;"⟩ : MethodName)) (Wd := 0) (cells' := 6) (slots' := 12) (xs := []) (argsL := [(.int p1), (.int (p3 &&& (3 : Int32)))]) (rest := []) X0 hx hZ hown (by rw [hml]; rfl) (hv 0 rfl) (hv 1 rfl) (hv 3 rfl) (hv 2 rfl) (hb hby at_43) (by decide) hS0 hk0 own_EL C0.1 sf0 (rmst l Z a0 hw [] p1 (p3 &&& (3 : Int32)) cz h0 n0 Z0 O0 S_cz hcz) e0 rfl rfl pd_rm0_0 rfl (Nat.le_of_eq rfl) (by decide) (by decide) rfl rfl (by decide) (by decide)
      obtain ⟨ro_162, rfl, Nq162, Kq162, q162_0, q162_1, q162_2⟩ := Q162
      have N162 := Fr.app N0 Nq162
      obtain ⟨h162, e162⟩ : ∃ h, T162.heap = h := ⟨_, rfl⟩
      rw [e162] at Kq162 q162_0
      have Z162 : n0 ≤ h162.size := Nat.le_trans Z0 Kq162.1
      have f163 := O0.keep Kq162 (fun x q => absurd q List.not_mem_nil)
      have k162 : Go p e below m W T162 46 #[.val (.int p1), .val (.int p2), .val (.int p3), .val (.int p4), .val (.int (1 : Int32)), .val (.int u153_S0), .val (.int (0 : Int32)), .unset, .unset, .unset, .unset, .unset, .unset, .unset, .unset] [(.ref ro_162)] := k162
      rw [e162] at D162 hS162
      have C162 := C0.trans D162
      have k164 : Go p e below m W T162 48 #[.val (.int p1), .val (.int p2), .val (.int p3), .val (.int p4), .val (.int (1 : Int32)), .val (.int u153_S0), .val (.int (0 : Int32)), .val (.ref ro_162), .unset, .unset, .unset, .unset, .unset, .unset, .unset] [] := k162.astore X162 hx (hb hby at_46) rfl rfl
      have k165 : Go p e below m W T162 54 #[.val (.int p1), .val (.int p2), .val (.int p3), .val (.int p4), .val (.int (1 : Int32)), .val (.int u153_S0), .val (.int (0 : Int32)), .val (.ref ro_162), .unset, .unset, .unset, .unset, .unset, .unset, .unset] [(.int ((XT.ushr p3 (2 : Int32)) &&& (3 : Int32))), (.int p2)] := (((((k164.iloadN X162 hx (hb hby at_48) rfl).iloadN X162 hx (hb hby at_49) rfl).iconst X162 hx (hb hby at_50) (v := (2 : Int32)) rfl).iushr X162 hx (hb hby at_51)).iconst X162 hx (hb hby at_52) (v := (3 : Int32)) rfl).iand X162 hx (hb hby at_53)
      obtain ⟨T166, v166, L166, X166, Q166, D166, hS166, hZ166, hown166, k166⟩ := k165.statS (y := (⟨"com/example/ikat/ikat/core/LinkEditDestinationPinLaw", "str", "(II)Ljava/lang/String;"⟩ : MethodName)) (Wd := 0) (cells' := 12) (slots' := 24) (xs := []) (argsL := [(.int p2), (.int ((XT.ushr p3 (2 : Int32)) &&& (3 : Int32)))]) (rest := []) X162 hx hZ162 hown162 (by rw [hml]; rfl) (hv 0 rfl) (hv 1 rfl) (hv 3 rfl) (hv 2 rfl) (hb hby at_54) (by decide) hS162 (Nat.le_refl _) own_EL C162.1 sf0 (rmst l Z a0 hw [] p2 ((XT.ushr p3 (2 : Int32)) &&& (3 : Int32)) cz h162 n0 Z162 f163 S_cz hcz) e162 rfl rfl pd_rm0_0 rfl (Nat.le_of_eq rfl) (by decide) (by decide) rfl rfl (by decide) (by decide)
      obtain ⟨ro_166, rfl, Nq166, Kq166, q166_0, q166_1, q166_2⟩ := Q166
      have N166 := Fr.app N162 Nq166
      obtain ⟨h166, e166⟩ : ∃ h, T166.heap = h := ⟨_, rfl⟩
      rw [e166] at Kq166 q166_0
      have Z166 : n0 ≤ h166.size := Nat.le_trans Z162 Kq166.1
      have f167 := f163.keep Kq166 (fun x q => absurd q List.not_mem_nil)
      have f168 := q162_0.keep Kq166
      have ne169_ro_162 : ro_162 ≠ ro_166 := Nat.ne_of_lt (Nat.lt_of_lt_of_le q162_0.lt q166_2)
      have k166 : Go p e below m W T166 57 #[.val (.int p1), .val (.int p2), .val (.int p3), .val (.int p4), .val (.int (1 : Int32)), .val (.int u153_S0), .val (.int (0 : Int32)), .val (.ref ro_162), .unset, .unset, .unset, .unset, .unset, .unset, .unset] [(.ref ro_166)] := k166
      rw [e166] at D166 hS166
      have C166 := C162.trans D166
      have k170 : Go p e below m W T166 59 #[.val (.int p1), .val (.int p2), .val (.int p3), .val (.int p4), .val (.int (1 : Int32)), .val (.int u153_S0), .val (.int (0 : Int32)), .val (.ref ro_162), .val (.ref ro_166), .unset, .unset, .unset, .unset, .unset, .unset] [] := k166.astore X166 hx (hb hby at_57) rfl rfl
      obtain ⟨T171, h171, b171, X171, e171, g171, E171, A171, D171, k171⟩ := k170.newO (cells' := 13) (slots' := 30) X166 hx hZ166 hown166 (hv 37 rfl) (hv 38 rfl) (hv 39 rfl) e166 (hb hby at_59) rfl rfl (by decide) (by decide)
      have k171 : Go p e below m W T171 62 #[.val (.int p1), .val (.int p2), .val (.int p3), .val (.int p4), .val (.int (1 : Int32)), .val (.int u153_S0), .val (.int (0 : Int32)), .val (.ref ro_162), .val (.ref ro_166), .unset, .unset, .unset, .unset, .unset, .unset] [(.ref b171)] := k171
      have Z171 : n0 ≤ h171.size := Nat.le_trans Z166 E171.1
      have ne171_ro_162 : ro_162 ≠ b171 := Nat.ne_of_lt (g171 ▸ f168.lt)
      have ne171_ro_166 : ro_166 ≠ b171 := Nat.ne_of_lt (g171 ▸ q166_0.lt)
      have f172 := f167.ext E171
      have f173 := f168.ext E171
      have f174 := q166_0.ext E171
      have G171 : n0 ≤ b171 := g171 ▸ Z166
      have DC171 := CHr.ext E171 C166.1
      have C171 := C166.trans DC171
      have hk171 : _ ≤ h171.size := Nat.le_trans (Nat.le_refl _) DC171.2.1
      have sf175 := Safe.ext E171 C166.1 (Safe.new (x := b171) (Nat.le_of_eq g171.symm))
      have f176 : Fld Z h171 b171 "com/example/ikat/ikat/core/LinkEdit" "paused" "Ljava/lang/Boolean;" .null := D171 (Or.inl (hv 55 rfl)) (ty := (.object "java/lang/Boolean")) (by decide)
      have f177 : Fld Z h171 b171 "com/example/ikat/ikat/core/LinkEdit" "destination" "Ljava/lang/String;" .null := D171 (Or.inl (hv 68 rfl)) (ty := (.object "java/lang/String")) (by decide)
      have f178 : Fld Z h171 b171 "com/example/ikat/ikat/core/LinkEdit" "changesExpiry" "Z" (.int (0 : Int32)) := D171 (Or.inl (hv 92 rfl)) (ty := .boolean) (by decide)
      have f179 : Fld Z h171 b171 "com/example/ikat/ikat/core/LinkEdit" "expiresAt" "Ljava/time/Instant;" .null := D171 (Or.inl (hv 99 rfl)) (ty := (.object "java/time/Instant")) (by decide)
      have f180 : Fld Z h171 b171 "com/example/ikat/ikat/core/LinkEdit" "changesMaxVisits" "Z" (.int (0 : Int32)) := D171 (Or.inl (hv 106 rfl)) (ty := .boolean) (by decide)
      have f181 : Fld Z h171 b171 "com/example/ikat/ikat/core/LinkEdit" "maxVisits" "Ljava/lang/Integer;" .null := D171 (Or.inl (hv 113 rfl)) (ty := (.object "java/lang/Integer")) (by decide)
      have k182 : Go p e below m W T171 63 #[.val (.int p1), .val (.int p2), .val (.int p3), .val (.int p4), .val (.int (1 : Int32)), .val (.int u153_S0), .val (.int (0 : Int32)), .val (.ref ro_162), .val (.ref ro_166), .unset, .unset, .unset, .unset, .unset, .unset] [(.ref b171), (.ref b171)] := k171.dup X171 hx (hb hby at_62) rfl
      obtain ⟨T183, v183, L183, X183, Q183, k183⟩ := k182.spec (y := (⟨"com/example/ikat/ikat/core/LinkEdit", "<init>", "()V"⟩ : MethodName)) (b := b171) (Wd := 1) (cells' := 13) (slots' := 30) (argsL := []) (rest := [(.ref b171)]) X171 hx hZ166 hown166 (by rw [hml]; rfl) rfl (hv 40 rfl) (hv 41 rfl) (hv 42 rfl) (hv 39 rfl) (hb hby at_63) (by decide) (rme l Z a0 hw [] b171 h171 n0 Z171) e171 rfl rfl pd_rm0_1 rfl (Nat.le_of_eq rfl) (by decide) (by decide) rfl rfl (by decide) (by decide)
      obtain ⟨rfl, Nq183, e183q⟩ := Q183
      have N183 := Fr.app N166 Nq183
      have e183 : T183.heap = h171 := e183q
      have k183 : Go p e below m W T183 66 #[.val (.int p1), .val (.int p2), .val (.int p3), .val (.int p4), .val (.int (1 : Int32)), .val (.int u153_S0), .val (.int (0 : Int32)), .val (.ref ro_162), .val (.ref ro_166), .unset, .unset, .unset, .unset, .unset, .unset] [(.ref b171)] := k183
      have k184 : Go p e below m W T183 68 #[.val (.int p1), .val (.int p2), .val (.int p3), .val (.int p4), .val (.int (1 : Int32)), .val (.int u153_S0), .val (.int (0 : Int32)), .val (.ref ro_162), .val (.ref ro_166), .val (.ref b171), .unset, .unset, .unset, .unset, .unset] [] := k183.astore X183 hx (hb hby at_66) rfl rfl
      have k185 : Go p e below m W T183 77 #[.val (.int p1), .val (.int p2), .val (.int p3), .val (.int p4), .val (.int (1 : Int32)), .val (.int u153_S0), .val (.int (0 : Int32)), .val (.ref ro_162), .val (.ref ro_166), .val (.ref b171), .unset, .unset, .unset, .unset, .unset] [(.int u153_S0), (.ref b171)] := (((k184.iload X183 hx (hb hby at_68) rfl).ifNo X183 hx (hb hby at_70) (XT.i0_eq_f (by decide))).aload X183 hx (hb hby at_73) rfl rfl).iload X183 hx (hb hby at_75) rfl
      obtain ⟨T186, v186, L186, X186, Q186, k186⟩ := k185.virt (y := (⟨"com/example/ikat/ikat/core/LinkEdit", "paused", "(Z)Lcom/example/ikat/ikat/core/LinkEdit;"⟩ : MethodName)) (z := (⟨"com/example/ikat/ikat/core/LinkEdit", "paused", "(Z)Lcom/example/ikat/ikat/core/LinkEdit;"⟩ : MethodName)) (Wd := 0) (cells' := 13) (slots' := 30) (argsL := [(.int u153_S0)]) (rest := []) X183 hx hZ166 hown166 (by rw [hml]; rfl) (hv 44 rfl) (hv 45 rfl) (notFace_of_selects (args := #[]) (mvT hZ166 (hv 47 rfl))) (hv 47 rfl) (hv 46 rfl) (hv 48 rfl) (hv 39 rfl) (hb hby at_77) (by decide) (rmsp l Z a0 hw [] b171 u153_S0 bt bf .null .null (.int (0 : Int32)) .null (.int (0 : Int32)) .null h171 n0 Z171 (by rcases hd153 with ⟨_, q⟩ | ⟨_, q⟩ <;> first | exact Or.inl q | exact Or.inr q) f172 St Et Ft Sf Ef Ff A171 G171 f177 f176 f178 f179 f180 f181) e183 A171 rfl rfl pd_rm0_8 rfl (Nat.le_of_eq rfl) (by decide) (by decide) rfl rfl (by decide) (by decide)
      obtain ⟨rb_186, rfl, Nq186, Kq186, q186_0, q186_1, q186_2, q186_3, q186_4, q186_5, q186_6, q186_7, q186_8⟩ := Q186
      have N186 := Fr.app N183 Nq186
      obtain ⟨h186, e186⟩ : ∃ h, T186.heap = h := ⟨_, rfl⟩
      rw [e186] at Kq186 q186_0 q186_1 q186_2 q186_3 q186_4 q186_5 q186_6 q186_7 q186_8
      have Z186 : n0 ≤ h186.size := Nat.le_trans Z171 Kq186.1
      have DC186 := CHr.keep Kq186 (sfS sf175 sf0) C171.1
      have C186 := C171.trans DC186
      have sf187 := DC186.safe A171.lt sf175
      have hk186 : _ ≤ h186.size := Nat.le_trans hk171 DC186.2.1
      have f188 := f172.keep Kq186 (by intro x q; simp only [List.mem_cons, List.not_mem_nil, or_false] at q; rcases q with rfl; exact G171)
      have f189 := f173.keep Kq186
      have f190 := f174.keep Kq186
      have f191 := A171.keep Kq186
      have k186 : Go p e below m W T186 80 #[.val (.int p1), .val (.int p2), .val (.int p3), .val (.int p4), .val (.int (1 : Int32)), .val (.int u153_S0), .val (.int (0 : Int32)), .val (.ref ro_162), .val (.ref ro_166), .val (.ref b171), .unset, .unset, .unset, .unset, .unset] [(.ref b171)] := k186
      have k192 : Go p e below m W T186 85 #[.val (.int p1), .val (.int p2), .val (.int p3), .val (.int p4), .val (.int (1 : Int32)), .val (.int u153_S0), .val (.int (0 : Int32)), .val (.ref ro_162), .val (.ref ro_166), .val (.ref b171), .unset, .unset, .unset, .unset, .unset] [(.ref ro_162), (.ref b171)] := ((k186.pop X186 hx (hb hby at_80) rfl).aload X186 hx (hb hby at_81) rfl rfl).aload X186 hx (hb hby at_83) rfl rfl
      obtain ⟨T193, v193, L193, X193, Q193, D193, hS193, hZ193, hown193, k193⟩ := k192.virtS (y := (⟨"com/example/ikat/ikat/core/LinkEdit", "destination", "(Ljava/lang/String;)Lcom/example/ikat/ikat/core/LinkEdit;"⟩ : MethodName)) (z := (⟨"com/example/ikat/ikat/core/LinkEdit", "destination", "(Ljava/lang/String;)Lcom/example/ikat/ikat/core/LinkEdit;"⟩ : MethodName)) (Wd := 0) (cells' := 15) (slots' := 78) (xs := []) (argsL := [(.ref ro_162)]) (rest := []) X186 hx hZ166 hown166 (by rw [hml]; rfl) (hv 56 rfl) (hv 57 rfl) (notFace_of_selects (args := #[]) (mvT (s := s.setVm T166.vm) hZ166 (hv 59 rfl))) (hv 59 rfl) (hv 58 rfl) (hv 60 rfl) (hv 39 rfl) (hb hby at_85) (by decide) hS166 hk186 own_EL C186.1 sf0 (rmsd l Z a0 hw [] b171 ro_162 .null (.ref rb_186) (.int (0 : Int32)) .null (.int (0 : Int32)) .null h186 n0 Z186 q186_0 G171 f189 q186_1 q186_2 q186_3 q186_4 q186_5 q186_6) e186 q186_0 rfl rfl pd_rm0_2 rfl (Nat.le_of_eq rfl) (by decide) (by decide) rfl rfl (by decide) (by decide)
      obtain ⟨rfl, Nq193, Kq193, q193_0, q193_1, q193_2, q193_3, q193_4, q193_5, q193_6⟩ := Q193
      have N193 := Fr.app N186 Nq193
      obtain ⟨h193, e193⟩ : ∃ h, T193.heap = h := ⟨_, rfl⟩
      rw [e193] at Kq193 q193_0 q193_1 q193_2 q193_3 q193_4 q193_5 q193_6
      have Z193 : n0 ≤ h193.size := Nat.le_trans Z186 Kq193.1
      have f194 := f188.keep Kq193 (by intro x q; simp only [List.mem_cons, List.not_mem_nil, or_false] at q; rcases q with rfl; exact G171)
      have f195 := f189.keep Kq193
      have f196 := f190.keep Kq193
      have f197 := q186_0.keep Kq193
      have f198 := q186_7.keep Kq193
      have f199 := q186_8.keep Kq193 (by simp only [List.mem_cons, List.not_mem_nil, or_false, not_or]; exact (ne_exa q186_7 q186_0 (by decide)))
      have k193 : Go p e below m W T193 88 #[.val (.int p1), .val (.int p2), .val (.int p3), .val (.int p4), .val (.int (1 : Int32)), .val (.int u153_S0), .val (.int (0 : Int32)), .val (.ref ro_162), .val (.ref ro_166), .val (.ref b171), .unset, .unset, .unset, .unset, .unset] [(.ref b171)] := k193
      rw [e193] at D193 hS193
      have C193 := C186.trans D193
      have sf200 := D193.safe q186_0.lt sf187
      have k201 : Go p e below m W T193 90 #[.val (.int p1), .val (.int p2), .val (.int p3), .val (.int p4), .val (.int (1 : Int32)), .val (.int u153_S0), .val (.int (0 : Int32)), .val (.ref ro_162), .val (.ref ro_166), .val (.ref b171), .val (.ref b171), .unset, .unset, .unset, .unset] [] := k193.astore X193 hx (hb hby at_88) rfl rfl
      have k202 : Go p e below m W T193 94 #[.val (.int p1), .val (.int p2), .val (.int p3), .val (.int p4), .val (.int (1 : Int32)), .val (.int u153_S0), .val (.int (0 : Int32)), .val (.ref ro_162), .val (.ref ro_166), .val (.ref b171), .val (.ref b171), .val (.ref b171), .unset, .unset, .unset] [] := (k201.aload X193 hx (hb hby at_90) rfl rfl).astore X193 hx (hb hby at_92) rfl rfl
      have k203 : Go p e below m W T193 122 #[.val (.int p1), .val (.int p2), .val (.int p3), .val (.int p4), .val (.int (1 : Int32)), .val (.int u153_S0), .val (.int (0 : Int32)), .val (.ref ro_162), .val (.ref ro_166), .val (.ref b171), .val (.ref b171), .val (.ref b171), .val (.ref ro_162), .unset, .unset] [] := (((((k202.iload X193 hx (hb hby at_94) rfl).ifYes X193 hx (hb hby at_96) (XT.i0_eq_t (by decide)) (by decide) (by decide)).iload X193 hx (hb hby at_108) rfl).ifYes X193 hx (hb hby at_110) (XT.i0_eq_t (by decide)) (by decide) (by decide)).aload X193 hx (hb hby at_118) rfl rfl).astore X193 hx (hb hby at_120) rfl rfl
      have k204 : Go p e below m W T193 143 #[.val (.int p1), .val (.int p2), .val (.int p3), .val (.int p4), .val (.int (1 : Int32)), .val (.int u153_S0), .val (.int (0 : Int32)), .val (.ref ro_162), .val (.ref ro_166), .val (.ref b171), .val (.ref b171), .val (.ref b171), .val (.ref ro_162), .val (.int (1 : Int32)), .unset] [] := ((((((((k203.aload X193 hx (hb hby at_122) rfl rfl).aload X193 hx (hb hby at_124) rfl rfl).acmpNo X193 hx (hb hby at_126) rfl rfl (XT.aa_ne_f rfl)).aload X193 hx (hb hby at_129) rfl rfl).aload X193 hx (hb hby at_131) rfl rfl).acmpNo X193 hx (hb hby at_133) rfl rfl (XT.aa_ne_f rfl)).iconst X193 hx (hb hby at_136) (v := (1 : Int32)) rfl).goto X193 hx (hb hby at_137) (by decide) (by decide)).istore X193 hx (hb hby at_141) rfl
      have k205 : Go p e below m W T193 150 #[.val (.int p1), .val (.int p2), .val (.int p3), .val (.int p4), .val (.int (1 : Int32)), .val (.int u153_S0), .val (.int (0 : Int32)), .val (.ref ro_162), .val (.ref ro_166), .val (.ref b171), .val (.ref b171), .val (.ref b171), .val (.ref ro_162), .val (.int (1 : Int32)), .unset] [(.ref b171)] := ((k204.iload X193 hx (hb hby at_143) rfl).ifNo X193 hx (hb hby at_145) (XT.i0_eq_f (by decide))).aload X193 hx (hb hby at_148) rfl rfl
      obtain ⟨T206, v206, L206, X206, Q206, k206⟩ := k205.virt (y := (⟨"com/example/ikat/ikat/core/LinkEdit", "destination", "()Ljava/lang/String;"⟩ : MethodName)) (z := (⟨"com/example/ikat/ikat/core/LinkEdit", "destination", "()Ljava/lang/String;"⟩ : MethodName)) (Wd := 0) (cells' := 15) (slots' := 78) (argsL := []) (rest := []) X193 hx hZ193 hown193 (by rw [hml]; rfl) (hv 69 rfl) (hv 70 rfl) (notFace_of_selects (args := #[]) (mvT hZ193 (hv 72 rfl))) (hv 72 rfl) (hv 71 rfl) (hv 73 rfl) (hv 39 rfl) (hb hby at_150) (by decide) (rmg0 l Z a0 hw [] b171 (.ref ro_162) h193 n0 Z193 rfl q193_1) e193 q193_0 rfl rfl pd_rm0_3 rfl (Nat.le_of_eq rfl) (by decide) (by decide) rfl rfl (by decide) (by decide)
      obtain ⟨rfl, Nq206, e206q⟩ := Q206
      have N206 := Fr.app N193 Nq206
      have e206 : T206.heap = h193 := e206q
      have k206 : Go p e below m W T206 153 #[.val (.int p1), .val (.int p2), .val (.int p3), .val (.int p4), .val (.int (1 : Int32)), .val (.int u153_S0), .val (.int (0 : Int32)), .val (.ref ro_162), .val (.ref ro_166), .val (.ref b171), .val (.ref b171), .val (.ref b171), .val (.ref ro_162), .val (.int (1 : Int32)), .unset] [(.ref ro_162)] := k206
      have k207 : Go p e below m W T206 165 #[.val (.int p1), .val (.int p2), .val (.int p3), .val (.int p4), .val (.int (1 : Int32)), .val (.int u153_S0), .val (.int (0 : Int32)), .val (.ref ro_162), .val (.ref ro_166), .val (.ref b171), .val (.ref b171), .val (.ref b171), .val (.ref ro_162), .val (.int (1 : Int32)), .unset] [] := ((((k206.aload X206 hx (hb hby at_153) rfl rfl).acmpNo X206 hx (hb hby at_155) rfl rfl (XT.aa_ne_f rfl)).iconst X206 hx (hb hby at_158) (v := (1 : Int32)) rfl).goto X206 hx (hb hby at_159) (by decide) (by decide)).istore X206 hx (hb hby at_163) rfl
      have k208 : Go p e below m W T206 167 #[.val (.int p1), .val (.int p2), .val (.int p3), .val (.int p4), .val (.int (1 : Int32)), .val (.int u153_S0), .val (.int (0 : Int32)), .val (.ref ro_162), .val (.ref ro_166), .val (.ref b171), .val (.ref b171), .val (.ref b171), .val (.ref ro_162), .val (.int (1 : Int32)), .unset] [(.ref b171)] := k207.aload X206 hx (hb hby at_165) rfl rfl
      obtain ⟨T209, v209, L209, X209, Q209, k209⟩ := k208.virt (y := (⟨"com/example/ikat/ikat/core/LinkEdit", "paused", "()Ljava/lang/Boolean;"⟩ : MethodName)) (z := (⟨"com/example/ikat/ikat/core/LinkEdit", "paused", "()Ljava/lang/Boolean;"⟩ : MethodName)) (Wd := 0) (cells' := 15) (slots' := 78) (argsL := []) (rest := []) X206 hx hZ193 hown193 (by rw [hml]; rfl) (hv 74 rfl) (hv 75 rfl) (notFace_of_selects (args := #[]) (mvT hZ193 (hv 77 rfl))) (hv 77 rfl) (hv 76 rfl) (hv 78 rfl) (hv 39 rfl) (hb hby at_167) (by decide) (rmg1 l Z a0 hw [] b171 (.ref rb_186) h193 n0 Z193 rfl q193_2) e206 q193_0 rfl rfl pd_rm0_4 rfl (Nat.le_of_eq rfl) (by decide) (by decide) rfl rfl (by decide) (by decide)
      obtain ⟨rfl, Nq209, e209q⟩ := Q209
      have N209 := Fr.app N206 Nq209
      have e209 : T209.heap = h193 := e209q
      have k209 : Go p e below m W T209 170 #[.val (.int p1), .val (.int p2), .val (.int p3), .val (.int p4), .val (.int (1 : Int32)), .val (.int u153_S0), .val (.int (0 : Int32)), .val (.ref ro_162), .val (.ref ro_166), .val (.ref b171), .val (.ref b171), .val (.ref b171), .val (.ref ro_162), .val (.int (1 : Int32)), .unset] [(.ref rb_186)] := k209
      have k210 : Go p e below m W T209 172 #[.val (.int p1), .val (.int p2), .val (.int p3), .val (.int p4), .val (.int (1 : Int32)), .val (.int u153_S0), .val (.int (0 : Int32)), .val (.ref ro_162), .val (.ref ro_166), .val (.ref b171), .val (.ref b171), .val (.ref b171), .val (.ref ro_162), .val (.int (1 : Int32)), .val (.ref rb_186)] [] := k209.astore X209 hx (hb hby at_170) rfl rfl
      have k211 : Go p e below m W T209 189 #[.val (.int p1), .val (.int p2), .val (.int p3), .val (.int p4), .val (.int (1 : Int32)), .val (.int u153_S0), .val (.int (0 : Int32)), .val (.ref ro_162), .val (.ref ro_166), .val (.ref b171), .val (.ref b171), .val (.ref b171), .val (.ref ro_162), .val (.int (1 : Int32)), .val (.ref rb_186)] [(.ref rb_186)] := ((((((k210.iload X209 hx (hb hby at_172) rfl).ifNo X209 hx (hb hby at_174) (XT.i0_eq_f (by decide))).iload X209 hx (hb hby at_177) rfl).ifNo X209 hx (hb hby at_179) (XT.i0_eq_f (by decide))).aload X209 hx (hb hby at_182) rfl rfl).nullNo X209 hx (hb hby at_184) rfl (fun q => by cases q)).aload X209 hx (hb hby at_187) rfl rfl
      obtain ⟨T212, v212, L212, X212, Q212, k212⟩ := k211.virt (y := (⟨"java/lang/Boolean", "booleanValue", "()Z"⟩ : MethodName)) (z := (⟨"java/lang/Boolean", "booleanValue", "()Z"⟩ : MethodName)) (Wd := 0) (cells' := 15) (slots' := 78) (argsL := []) (rest := []) X209 hx hZ193 hown193 (by rw [hml]; rfl) (hv 79 rfl) (hv 80 rfl) (notFace_of_selects (args := #[]) (mvT hZ193 (hv 82 rfl))) (hv 82 rfl) (hv 81 rfl) (hv 83 rfl) (hv 51 rfl) (hb hby at_189) (by decide) (rmbl l Z a0 hw [] rb_186 u153_S0 h193 n0 Z193 (by rcases hd153 with ⟨_, q⟩ | ⟨_, q⟩ <;> first | exact Or.inl q | exact Or.inr q) f199) e209 f198 rfl rfl pd_rm0_5 rfl (Nat.le_of_eq rfl) (by decide) (by decide) rfl rfl (by decide) (by decide)
      obtain ⟨rfl, Nq212, e212q⟩ := Q212
      have N212 := Fr.app N209 Nq212
      have e212 : T212.heap = h193 := e212q
      have k212 : Go p e below m W T212 192 #[.val (.int p1), .val (.int p2), .val (.int p3), .val (.int p4), .val (.int (1 : Int32)), .val (.int u153_S0), .val (.int (0 : Int32)), .val (.ref ro_162), .val (.ref ro_166), .val (.ref b171), .val (.ref b171), .val (.ref b171), .val (.ref ro_162), .val (.int (1 : Int32)), .val (.ref rb_186)] [(.int u153_S0)] := k212
      have k213 : Go p e below m W T212 204 #[.val (.int p1), .val (.int p2), .val (.int p3), .val (.int p4), .val (.int (1 : Int32)), .val (.int u153_S0), .val (.int (0 : Int32)), .val (.ref ro_162), .val (.ref ro_166), .val (.ref b171), .val (.ref b171), .val (.ref b171), .val (.ref ro_162), .val (.int (1 : Int32)), .val (.ref rb_186)] [] := ((((k212.iload X212 hx (hb hby at_192) rfl).icmpNo X212 hx (hb hby at_194) (XT.ii_ne_f rfl)).iconst X212 hx (hb hby at_197) (v := (1 : Int32)) rfl).goto X212 hx (hb hby at_198) (by decide) (by decide)).istore X212 hx (hb hby at_202) rfl
      have k214 : Go p e below m W T212 231 #[.val (.int p1), .val (.int p2), .val (.int p3), .val (.int p4), .val (.int (1 : Int32)), .val (.int u153_S0), .val (.int (0 : Int32)), .val (.ref ro_162), .val (.ref ro_166), .val (.ref b171), .val (.ref b171), .val (.ref b171), .val (.ref ro_162), .val (.int (1 : Int32)), .val (.ref rb_186)] [(.ref b171)] := (((k213.goto X212 hx (hb hby at_204) (by decide) (by decide)).iload X212 hx (hb hby at_224) rfl).ifNo X212 hx (hb hby at_226) (XT.i0_eq_f (by decide))).aload X212 hx (hb hby at_229) rfl rfl
      obtain ⟨T215, v215, L215, X215, Q215, k215⟩ := k214.virt (y := (⟨"com/example/ikat/ikat/core/LinkEdit", "changesExpiry", "()Z"⟩ : MethodName)) (z := (⟨"com/example/ikat/ikat/core/LinkEdit", "changesExpiry", "()Z"⟩ : MethodName)) (Wd := 0) (cells' := 15) (slots' := 78) (argsL := []) (rest := []) X212 hx hZ193 hown193 (by rw [hml]; rfl) (hv 86 rfl) (hv 87 rfl) (notFace_of_selects (args := #[]) (mvT hZ193 (hv 89 rfl))) (hv 89 rfl) (hv 88 rfl) (hv 90 rfl) (hv 39 rfl) (hb hby at_231) (by decide) (rmg2 l Z a0 hw [] b171 (0 : Int32) h193 n0 Z193 (Or.inl rfl) q193_3) e212 q193_0 rfl rfl pd_rm0_5 rfl (Nat.le_of_eq rfl) (by decide) (by decide) rfl rfl (by decide) (by decide)
      obtain ⟨rfl, Nq215, e215q⟩ := Q215
      have N215 := Fr.app N212 Nq215
      have e215 : T215.heap = h193 := e215q
      have k215 : Go p e below m W T215 234 #[.val (.int p1), .val (.int p2), .val (.int p3), .val (.int p4), .val (.int (1 : Int32)), .val (.int u153_S0), .val (.int (0 : Int32)), .val (.ref ro_162), .val (.ref ro_166), .val (.ref b171), .val (.ref b171), .val (.ref b171), .val (.ref ro_162), .val (.int (1 : Int32)), .val (.ref rb_186)] [(.int (0 : Int32))] := k215
      have k216 : Go p e below m W T215 244 #[.val (.int p1), .val (.int p2), .val (.int p3), .val (.int p4), .val (.int (1 : Int32)), .val (.int u153_S0), .val (.int (0 : Int32)), .val (.ref ro_162), .val (.ref ro_166), .val (.ref b171), .val (.ref b171), .val (.ref b171), .val (.ref ro_162), .val (.int (1 : Int32)), .val (.ref rb_186)] [] := (((k215.ifNo X215 hx (hb hby at_234) (XT.i0_ne_f (by decide))).iconst X215 hx (hb hby at_237) (v := (1 : Int32)) rfl).goto X215 hx (hb hby at_238) (by decide) (by decide)).istore X215 hx (hb hby at_242) rfl
      have k217 : Go p e below m W T215 251 #[.val (.int p1), .val (.int p2), .val (.int p3), .val (.int p4), .val (.int (1 : Int32)), .val (.int u153_S0), .val (.int (0 : Int32)), .val (.ref ro_162), .val (.ref ro_166), .val (.ref b171), .val (.ref b171), .val (.ref b171), .val (.ref ro_162), .val (.int (1 : Int32)), .val (.ref rb_186)] [(.ref b171)] := ((k216.iload X215 hx (hb hby at_244) rfl).ifNo X215 hx (hb hby at_246) (XT.i0_eq_f (by decide))).aload X215 hx (hb hby at_249) rfl rfl
      obtain ⟨T218, v218, L218, X218, Q218, k218⟩ := k217.virt (y := (⟨"com/example/ikat/ikat/core/LinkEdit", "expiresAt", "()Ljava/time/Instant;"⟩ : MethodName)) (z := (⟨"com/example/ikat/ikat/core/LinkEdit", "expiresAt", "()Ljava/time/Instant;"⟩ : MethodName)) (Wd := 0) (cells' := 15) (slots' := 78) (argsL := []) (rest := []) X215 hx hZ193 hown193 (by rw [hml]; rfl) (hv 93 rfl) (hv 94 rfl) (notFace_of_selects (args := #[]) (mvT hZ193 (hv 96 rfl))) (hv 96 rfl) (hv 95 rfl) (hv 97 rfl) (hv 39 rfl) (hb hby at_251) (by decide) (rmg3 l Z a0 hw [] b171 .null h193 n0 Z193 rfl q193_4) e215 q193_0 rfl rfl pd_rm0_6 rfl (Nat.le_of_eq rfl) (by decide) (by decide) rfl rfl (by decide) (by decide)
      obtain ⟨rfl, Nq218, e218q⟩ := Q218
      have N218 := Fr.app N215 Nq218
      have e218 : T218.heap = h193 := e218q
      have k218 : Go p e below m W T218 254 #[.val (.int p1), .val (.int p2), .val (.int p3), .val (.int p4), .val (.int (1 : Int32)), .val (.int u153_S0), .val (.int (0 : Int32)), .val (.ref ro_162), .val (.ref ro_166), .val (.ref b171), .val (.ref b171), .val (.ref b171), .val (.ref ro_162), .val (.int (1 : Int32)), .val (.ref rb_186)] [.null] := k218
      have k219 : Go p e below m W T218 264 #[.val (.int p1), .val (.int p2), .val (.int p3), .val (.int p4), .val (.int (1 : Int32)), .val (.int u153_S0), .val (.int (0 : Int32)), .val (.ref ro_162), .val (.ref ro_166), .val (.ref b171), .val (.ref b171), .val (.ref b171), .val (.ref ro_162), .val (.int (1 : Int32)), .val (.ref rb_186)] [] := (((k218.nonnullNo X218 hx (hb hby at_254) rfl).iconst X218 hx (hb hby at_257) (v := (1 : Int32)) rfl).goto X218 hx (hb hby at_258) (by decide) (by decide)).istore X218 hx (hb hby at_262) rfl
      have k220 : Go p e below m W T218 271 #[.val (.int p1), .val (.int p2), .val (.int p3), .val (.int p4), .val (.int (1 : Int32)), .val (.int u153_S0), .val (.int (0 : Int32)), .val (.ref ro_162), .val (.ref ro_166), .val (.ref b171), .val (.ref b171), .val (.ref b171), .val (.ref ro_162), .val (.int (1 : Int32)), .val (.ref rb_186)] [(.ref b171)] := ((k219.iload X218 hx (hb hby at_264) rfl).ifNo X218 hx (hb hby at_266) (XT.i0_eq_f (by decide))).aload X218 hx (hb hby at_269) rfl rfl
      obtain ⟨T221, v221, L221, X221, Q221, k221⟩ := k220.virt (y := (⟨"com/example/ikat/ikat/core/LinkEdit", "changesMaxVisits", "()Z"⟩ : MethodName)) (z := (⟨"com/example/ikat/ikat/core/LinkEdit", "changesMaxVisits", "()Z"⟩ : MethodName)) (Wd := 0) (cells' := 15) (slots' := 78) (argsL := []) (rest := []) X218 hx hZ193 hown193 (by rw [hml]; rfl) (hv 100 rfl) (hv 101 rfl) (notFace_of_selects (args := #[]) (mvT hZ193 (hv 103 rfl))) (hv 103 rfl) (hv 102 rfl) (hv 104 rfl) (hv 39 rfl) (hb hby at_271) (by decide) (rmg4 l Z a0 hw [] b171 (0 : Int32) h193 n0 Z193 (Or.inl rfl) q193_5) e218 q193_0 rfl rfl pd_rm0_5 rfl (Nat.le_of_eq rfl) (by decide) (by decide) rfl rfl (by decide) (by decide)
      obtain ⟨rfl, Nq221, e221q⟩ := Q221
      have N221 := Fr.app N218 Nq221
      have e221 : T221.heap = h193 := e221q
      have k221 : Go p e below m W T221 274 #[.val (.int p1), .val (.int p2), .val (.int p3), .val (.int p4), .val (.int (1 : Int32)), .val (.int u153_S0), .val (.int (0 : Int32)), .val (.ref ro_162), .val (.ref ro_166), .val (.ref b171), .val (.ref b171), .val (.ref b171), .val (.ref ro_162), .val (.int (1 : Int32)), .val (.ref rb_186)] [(.int (0 : Int32))] := k221
      have k222 : Go p e below m W T221 284 #[.val (.int p1), .val (.int p2), .val (.int p3), .val (.int p4), .val (.int (1 : Int32)), .val (.int u153_S0), .val (.int (0 : Int32)), .val (.ref ro_162), .val (.ref ro_166), .val (.ref b171), .val (.ref b171), .val (.ref b171), .val (.ref ro_162), .val (.int (1 : Int32)), .val (.ref rb_186)] [] := (((k221.ifNo X221 hx (hb hby at_274) (XT.i0_ne_f (by decide))).iconst X221 hx (hb hby at_277) (v := (1 : Int32)) rfl).goto X221 hx (hb hby at_278) (by decide) (by decide)).istore X221 hx (hb hby at_282) rfl
      have k223 : Go p e below m W T221 291 #[.val (.int p1), .val (.int p2), .val (.int p3), .val (.int p4), .val (.int (1 : Int32)), .val (.int u153_S0), .val (.int (0 : Int32)), .val (.ref ro_162), .val (.ref ro_166), .val (.ref b171), .val (.ref b171), .val (.ref b171), .val (.ref ro_162), .val (.int (1 : Int32)), .val (.ref rb_186)] [(.ref b171)] := ((k222.iload X221 hx (hb hby at_284) rfl).ifNo X221 hx (hb hby at_286) (XT.i0_eq_f (by decide))).aload X221 hx (hb hby at_289) rfl rfl
      obtain ⟨T224, v224, L224, X224, Q224, k224⟩ := k223.virt (y := (⟨"com/example/ikat/ikat/core/LinkEdit", "maxVisits", "()Ljava/lang/Integer;"⟩ : MethodName)) (z := (⟨"com/example/ikat/ikat/core/LinkEdit", "maxVisits", "()Ljava/lang/Integer;"⟩ : MethodName)) (Wd := 0) (cells' := 15) (slots' := 78) (argsL := []) (rest := []) X221 hx hZ193 hown193 (by rw [hml]; rfl) (hv 107 rfl) (hv 108 rfl) (notFace_of_selects (args := #[]) (mvT hZ193 (hv 110 rfl))) (hv 110 rfl) (hv 109 rfl) (hv 111 rfl) (hv 39 rfl) (hb hby at_291) (by decide) (rmg5 l Z a0 hw [] b171 .null h193 n0 Z193 rfl q193_6) e221 q193_0 rfl rfl pd_rm0_7 rfl (Nat.le_of_eq rfl) (by decide) (by decide) rfl rfl (by decide) (by decide)
      obtain ⟨rfl, Nq224, e224q⟩ := Q224
      have N224 := Fr.app N221 Nq224
      have e224 : T224.heap = h193 := e224q
      have k224 : Go p e below m W T224 294 #[.val (.int p1), .val (.int p2), .val (.int p3), .val (.int p4), .val (.int (1 : Int32)), .val (.int u153_S0), .val (.int (0 : Int32)), .val (.ref ro_162), .val (.ref ro_166), .val (.ref b171), .val (.ref b171), .val (.ref b171), .val (.ref ro_162), .val (.int (1 : Int32)), .val (.ref rb_186)] [.null] := k224
      have k225 : Go p e below m W T224 304 #[.val (.int p1), .val (.int p2), .val (.int p3), .val (.int p4), .val (.int (1 : Int32)), .val (.int u153_S0), .val (.int (0 : Int32)), .val (.ref ro_162), .val (.ref ro_166), .val (.ref b171), .val (.ref b171), .val (.ref b171), .val (.ref ro_162), .val (.int (1 : Int32)), .val (.ref rb_186)] [] := (((k224.nonnullNo X224 hx (hb hby at_294) rfl).iconst X224 hx (hb hby at_297) (v := (1 : Int32)) rfl).goto X224 hx (hb hby at_298) (by decide) (by decide)).istore X224 hx (hb hby at_302) rfl
      have k226 : Go p e below m W T224 306 #[.val (.int p1), .val (.int p2), .val (.int p3), .val (.int p4), .val (.int (1 : Int32)), .val (.int u153_S0), .val (.int (0 : Int32)), .val (.ref ro_162), .val (.ref ro_166), .val (.ref b171), .val (.ref b171), .val (.ref b171), .val (.ref ro_162), .val (.int (1 : Int32)), .val (.ref rb_186)] [(.int (1 : Int32))] := k225.iload X224 hx (hb hby at_304) rfl
      exact k226.ireturnNS X224 hx hZ193 own_EL hS193 (Nat.le_refl _) e224 (by rw [hh]; exact C193) (t := .boolean) Bd.returns (by simp) rfl (hb hby at_306) (BodyLoose.notSynchronized Bd) (by rw [e224]; exact ⟨rfl, N224⟩) (by decide) (by decide)
    ·
      have k227 : Go p e below m W s₁ 39 #[.val (.int p1), .val (.int p2), .val (.int p3), .val (.int p4), .val (.int (1 : Int32)), .val (.int u153_S0), .val (.int (1 : Int32)), .unset, .unset, .unset, .unset, .unset, .unset, .unset, .unset] [] := (((k158.ifNo X0 hx (hb hby at_29) (XT.i0_eq_f hc29_159)).iconst X0 hx (hb hby at_32) (v := (1 : Int32)) rfl).goto X0 hx (hb hby at_33) (by decide) (by decide)).istore X0 hx (hb hby at_37) rfl
      have k228 : Go p e below m W s₁ 43 #[.val (.int p1), .val (.int p2), .val (.int p3), .val (.int p4), .val (.int (1 : Int32)), .val (.int u153_S0), .val (.int (1 : Int32)), .unset, .unset, .unset, .unset, .unset, .unset, .unset, .unset] [(.int (p3 &&& (3 : Int32))), (.int p1)] := (((k227.iloadN X0 hx (hb hby at_39) rfl).iloadN X0 hx (hb hby at_40) rfl).iconst X0 hx (hb hby at_41) (v := (3 : Int32)) rfl).iand X0 hx (hb hby at_42)
      obtain ⟨T229, v229, L229, X229, Q229, D229, hS229, hZ229, hown229, k229⟩ := k228.statS (y := (⟨"com/example/ikat/ikat/core/LinkEditDestinationPinLaw", "str", "(II)Ljava/lang/String;"⟩ : MethodName)) (Wd := 0) (cells' := 6) (slots' := 12) (xs := []) (argsL := [(.int p1), (.int (p3 &&& (3 : Int32)))]) (rest := []) X0 hx hZ hown (by rw [hml]; rfl) (hv 0 rfl) (hv 1 rfl) (hv 3 rfl) (hv 2 rfl) (hb hby at_43) (by decide) hS0 hk0 own_EL C0.1 sf0 (rmst l Z a0 hw [] p1 (p3 &&& (3 : Int32)) cz h0 n0 Z0 O0 S_cz hcz) e0 rfl rfl pd_rm0_0 rfl (Nat.le_of_eq rfl) (by decide) (by decide) rfl rfl (by decide) (by decide)
      obtain ⟨ro_229, rfl, Nq229, Kq229, q229_0, q229_1, q229_2⟩ := Q229
      have N229 := Fr.app N0 Nq229
      obtain ⟨h229, e229⟩ : ∃ h, T229.heap = h := ⟨_, rfl⟩
      rw [e229] at Kq229 q229_0
      have Z229 : n0 ≤ h229.size := Nat.le_trans Z0 Kq229.1
      have f230 := O0.keep Kq229 (fun x q => absurd q List.not_mem_nil)
      have k229 : Go p e below m W T229 46 #[.val (.int p1), .val (.int p2), .val (.int p3), .val (.int p4), .val (.int (1 : Int32)), .val (.int u153_S0), .val (.int (1 : Int32)), .unset, .unset, .unset, .unset, .unset, .unset, .unset, .unset] [(.ref ro_229)] := k229
      rw [e229] at D229 hS229
      have C229 := C0.trans D229
      have k231 : Go p e below m W T229 48 #[.val (.int p1), .val (.int p2), .val (.int p3), .val (.int p4), .val (.int (1 : Int32)), .val (.int u153_S0), .val (.int (1 : Int32)), .val (.ref ro_229), .unset, .unset, .unset, .unset, .unset, .unset, .unset] [] := k229.astore X229 hx (hb hby at_46) rfl rfl
      have k232 : Go p e below m W T229 54 #[.val (.int p1), .val (.int p2), .val (.int p3), .val (.int p4), .val (.int (1 : Int32)), .val (.int u153_S0), .val (.int (1 : Int32)), .val (.ref ro_229), .unset, .unset, .unset, .unset, .unset, .unset, .unset] [(.int ((XT.ushr p3 (2 : Int32)) &&& (3 : Int32))), (.int p2)] := (((((k231.iloadN X229 hx (hb hby at_48) rfl).iloadN X229 hx (hb hby at_49) rfl).iconst X229 hx (hb hby at_50) (v := (2 : Int32)) rfl).iushr X229 hx (hb hby at_51)).iconst X229 hx (hb hby at_52) (v := (3 : Int32)) rfl).iand X229 hx (hb hby at_53)
      obtain ⟨T233, v233, L233, X233, Q233, D233, hS233, hZ233, hown233, k233⟩ := k232.statS (y := (⟨"com/example/ikat/ikat/core/LinkEditDestinationPinLaw", "str", "(II)Ljava/lang/String;"⟩ : MethodName)) (Wd := 0) (cells' := 12) (slots' := 24) (xs := []) (argsL := [(.int p2), (.int ((XT.ushr p3 (2 : Int32)) &&& (3 : Int32)))]) (rest := []) X229 hx hZ229 hown229 (by rw [hml]; rfl) (hv 0 rfl) (hv 1 rfl) (hv 3 rfl) (hv 2 rfl) (hb hby at_54) (by decide) hS229 (Nat.le_refl _) own_EL C229.1 sf0 (rmst l Z a0 hw [] p2 ((XT.ushr p3 (2 : Int32)) &&& (3 : Int32)) cz h229 n0 Z229 f230 S_cz hcz) e229 rfl rfl pd_rm0_0 rfl (Nat.le_of_eq rfl) (by decide) (by decide) rfl rfl (by decide) (by decide)
      obtain ⟨ro_233, rfl, Nq233, Kq233, q233_0, q233_1, q233_2⟩ := Q233
      have N233 := Fr.app N229 Nq233
      obtain ⟨h233, e233⟩ : ∃ h, T233.heap = h := ⟨_, rfl⟩
      rw [e233] at Kq233 q233_0
      have Z233 : n0 ≤ h233.size := Nat.le_trans Z229 Kq233.1
      have f234 := f230.keep Kq233 (fun x q => absurd q List.not_mem_nil)
      have f235 := q229_0.keep Kq233
      have ne236_ro_229 : ro_229 ≠ ro_233 := Nat.ne_of_lt (Nat.lt_of_lt_of_le q229_0.lt q233_2)
      have k233 : Go p e below m W T233 57 #[.val (.int p1), .val (.int p2), .val (.int p3), .val (.int p4), .val (.int (1 : Int32)), .val (.int u153_S0), .val (.int (1 : Int32)), .val (.ref ro_229), .unset, .unset, .unset, .unset, .unset, .unset, .unset] [(.ref ro_233)] := k233
      rw [e233] at D233 hS233
      have C233 := C229.trans D233
      have k237 : Go p e below m W T233 59 #[.val (.int p1), .val (.int p2), .val (.int p3), .val (.int p4), .val (.int (1 : Int32)), .val (.int u153_S0), .val (.int (1 : Int32)), .val (.ref ro_229), .val (.ref ro_233), .unset, .unset, .unset, .unset, .unset, .unset] [] := k233.astore X233 hx (hb hby at_57) rfl rfl
      obtain ⟨T238, h238, b238, X238, e238, g238, E238, A238, D238, k238⟩ := k237.newO (cells' := 13) (slots' := 30) X233 hx hZ233 hown233 (hv 37 rfl) (hv 38 rfl) (hv 39 rfl) e233 (hb hby at_59) rfl rfl (by decide) (by decide)
      have k238 : Go p e below m W T238 62 #[.val (.int p1), .val (.int p2), .val (.int p3), .val (.int p4), .val (.int (1 : Int32)), .val (.int u153_S0), .val (.int (1 : Int32)), .val (.ref ro_229), .val (.ref ro_233), .unset, .unset, .unset, .unset, .unset, .unset] [(.ref b238)] := k238
      have Z238 : n0 ≤ h238.size := Nat.le_trans Z233 E238.1
      have ne238_ro_229 : ro_229 ≠ b238 := Nat.ne_of_lt (g238 ▸ f235.lt)
      have ne238_ro_233 : ro_233 ≠ b238 := Nat.ne_of_lt (g238 ▸ q233_0.lt)
      have f239 := f234.ext E238
      have f240 := f235.ext E238
      have f241 := q233_0.ext E238
      have G238 : n0 ≤ b238 := g238 ▸ Z233
      have DC238 := CHr.ext E238 C233.1
      have C238 := C233.trans DC238
      have hk238 : _ ≤ h238.size := Nat.le_trans (Nat.le_refl _) DC238.2.1
      have sf242 := Safe.ext E238 C233.1 (Safe.new (x := b238) (Nat.le_of_eq g238.symm))
      have f243 : Fld Z h238 b238 "com/example/ikat/ikat/core/LinkEdit" "paused" "Ljava/lang/Boolean;" .null := D238 (Or.inl (hv 55 rfl)) (ty := (.object "java/lang/Boolean")) (by decide)
      have f244 : Fld Z h238 b238 "com/example/ikat/ikat/core/LinkEdit" "destination" "Ljava/lang/String;" .null := D238 (Or.inl (hv 68 rfl)) (ty := (.object "java/lang/String")) (by decide)
      have f245 : Fld Z h238 b238 "com/example/ikat/ikat/core/LinkEdit" "changesExpiry" "Z" (.int (0 : Int32)) := D238 (Or.inl (hv 92 rfl)) (ty := .boolean) (by decide)
      have f246 : Fld Z h238 b238 "com/example/ikat/ikat/core/LinkEdit" "expiresAt" "Ljava/time/Instant;" .null := D238 (Or.inl (hv 99 rfl)) (ty := (.object "java/time/Instant")) (by decide)
      have f247 : Fld Z h238 b238 "com/example/ikat/ikat/core/LinkEdit" "changesMaxVisits" "Z" (.int (0 : Int32)) := D238 (Or.inl (hv 106 rfl)) (ty := .boolean) (by decide)
      have f248 : Fld Z h238 b238 "com/example/ikat/ikat/core/LinkEdit" "maxVisits" "Ljava/lang/Integer;" .null := D238 (Or.inl (hv 113 rfl)) (ty := (.object "java/lang/Integer")) (by decide)
      have k249 : Go p e below m W T238 63 #[.val (.int p1), .val (.int p2), .val (.int p3), .val (.int p4), .val (.int (1 : Int32)), .val (.int u153_S0), .val (.int (1 : Int32)), .val (.ref ro_229), .val (.ref ro_233), .unset, .unset, .unset, .unset, .unset, .unset] [(.ref b238), (.ref b238)] := k238.dup X238 hx (hb hby at_62) rfl
      obtain ⟨T250, v250, L250, X250, Q250, k250⟩ := k249.spec (y := (⟨"com/example/ikat/ikat/core/LinkEdit", "<init>", "()V"⟩ : MethodName)) (b := b238) (Wd := 1) (cells' := 13) (slots' := 30) (argsL := []) (rest := [(.ref b238)]) X238 hx hZ233 hown233 (by rw [hml]; rfl) rfl (hv 40 rfl) (hv 41 rfl) (hv 42 rfl) (hv 39 rfl) (hb hby at_63) (by decide) (rme l Z a0 hw [] b238 h238 n0 Z238) e238 rfl rfl pd_rm0_1 rfl (Nat.le_of_eq rfl) (by decide) (by decide) rfl rfl (by decide) (by decide)
      obtain ⟨rfl, Nq250, e250q⟩ := Q250
      have N250 := Fr.app N233 Nq250
      have e250 : T250.heap = h238 := e250q
      have k250 : Go p e below m W T250 66 #[.val (.int p1), .val (.int p2), .val (.int p3), .val (.int p4), .val (.int (1 : Int32)), .val (.int u153_S0), .val (.int (1 : Int32)), .val (.ref ro_229), .val (.ref ro_233), .unset, .unset, .unset, .unset, .unset, .unset] [(.ref b238)] := k250
      have k251 : Go p e below m W T250 68 #[.val (.int p1), .val (.int p2), .val (.int p3), .val (.int p4), .val (.int (1 : Int32)), .val (.int u153_S0), .val (.int (1 : Int32)), .val (.ref ro_229), .val (.ref ro_233), .val (.ref b238), .unset, .unset, .unset, .unset, .unset] [] := k250.astore X250 hx (hb hby at_66) rfl rfl
      have k252 : Go p e below m W T250 77 #[.val (.int p1), .val (.int p2), .val (.int p3), .val (.int p4), .val (.int (1 : Int32)), .val (.int u153_S0), .val (.int (1 : Int32)), .val (.ref ro_229), .val (.ref ro_233), .val (.ref b238), .unset, .unset, .unset, .unset, .unset] [(.int u153_S0), (.ref b238)] := (((k251.iload X250 hx (hb hby at_68) rfl).ifNo X250 hx (hb hby at_70) (XT.i0_eq_f (by decide))).aload X250 hx (hb hby at_73) rfl rfl).iload X250 hx (hb hby at_75) rfl
      obtain ⟨T253, v253, L253, X253, Q253, k253⟩ := k252.virt (y := (⟨"com/example/ikat/ikat/core/LinkEdit", "paused", "(Z)Lcom/example/ikat/ikat/core/LinkEdit;"⟩ : MethodName)) (z := (⟨"com/example/ikat/ikat/core/LinkEdit", "paused", "(Z)Lcom/example/ikat/ikat/core/LinkEdit;"⟩ : MethodName)) (Wd := 0) (cells' := 13) (slots' := 30) (argsL := [(.int u153_S0)]) (rest := []) X250 hx hZ233 hown233 (by rw [hml]; rfl) (hv 44 rfl) (hv 45 rfl) (notFace_of_selects (args := #[]) (mvT hZ233 (hv 47 rfl))) (hv 47 rfl) (hv 46 rfl) (hv 48 rfl) (hv 39 rfl) (hb hby at_77) (by decide) (rmsp l Z a0 hw [] b238 u153_S0 bt bf .null .null (.int (0 : Int32)) .null (.int (0 : Int32)) .null h238 n0 Z238 (by rcases hd153 with ⟨_, q⟩ | ⟨_, q⟩ <;> first | exact Or.inl q | exact Or.inr q) f239 St Et Ft Sf Ef Ff A238 G238 f244 f243 f245 f246 f247 f248) e250 A238 rfl rfl pd_rm0_8 rfl (Nat.le_of_eq rfl) (by decide) (by decide) rfl rfl (by decide) (by decide)
      obtain ⟨rb_253, rfl, Nq253, Kq253, q253_0, q253_1, q253_2, q253_3, q253_4, q253_5, q253_6, q253_7, q253_8⟩ := Q253
      have N253 := Fr.app N250 Nq253
      obtain ⟨h253, e253⟩ : ∃ h, T253.heap = h := ⟨_, rfl⟩
      rw [e253] at Kq253 q253_0 q253_1 q253_2 q253_3 q253_4 q253_5 q253_6 q253_7 q253_8
      have Z253 : n0 ≤ h253.size := Nat.le_trans Z238 Kq253.1
      have DC253 := CHr.keep Kq253 (sfS sf242 sf0) C238.1
      have C253 := C238.trans DC253
      have sf254 := DC253.safe A238.lt sf242
      have hk253 : _ ≤ h253.size := Nat.le_trans hk238 DC253.2.1
      have f255 := f239.keep Kq253 (by intro x q; simp only [List.mem_cons, List.not_mem_nil, or_false] at q; rcases q with rfl; exact G238)
      have f256 := f240.keep Kq253
      have f257 := f241.keep Kq253
      have f258 := A238.keep Kq253
      have k253 : Go p e below m W T253 80 #[.val (.int p1), .val (.int p2), .val (.int p3), .val (.int p4), .val (.int (1 : Int32)), .val (.int u153_S0), .val (.int (1 : Int32)), .val (.ref ro_229), .val (.ref ro_233), .val (.ref b238), .unset, .unset, .unset, .unset, .unset] [(.ref b238)] := k253
      have k259 : Go p e below m W T253 85 #[.val (.int p1), .val (.int p2), .val (.int p3), .val (.int p4), .val (.int (1 : Int32)), .val (.int u153_S0), .val (.int (1 : Int32)), .val (.ref ro_229), .val (.ref ro_233), .val (.ref b238), .unset, .unset, .unset, .unset, .unset] [(.ref ro_229), (.ref b238)] := ((k253.pop X253 hx (hb hby at_80) rfl).aload X253 hx (hb hby at_81) rfl rfl).aload X253 hx (hb hby at_83) rfl rfl
      obtain ⟨T260, v260, L260, X260, Q260, D260, hS260, hZ260, hown260, k260⟩ := k259.virtS (y := (⟨"com/example/ikat/ikat/core/LinkEdit", "destination", "(Ljava/lang/String;)Lcom/example/ikat/ikat/core/LinkEdit;"⟩ : MethodName)) (z := (⟨"com/example/ikat/ikat/core/LinkEdit", "destination", "(Ljava/lang/String;)Lcom/example/ikat/ikat/core/LinkEdit;"⟩ : MethodName)) (Wd := 0) (cells' := 15) (slots' := 78) (xs := []) (argsL := [(.ref ro_229)]) (rest := []) X253 hx hZ233 hown233 (by rw [hml]; rfl) (hv 56 rfl) (hv 57 rfl) (notFace_of_selects (args := #[]) (mvT (s := s.setVm T233.vm) hZ233 (hv 59 rfl))) (hv 59 rfl) (hv 58 rfl) (hv 60 rfl) (hv 39 rfl) (hb hby at_85) (by decide) hS233 hk253 own_EL C253.1 sf0 (rmsd l Z a0 hw [] b238 ro_229 .null (.ref rb_253) (.int (0 : Int32)) .null (.int (0 : Int32)) .null h253 n0 Z253 q253_0 G238 f256 q253_1 q253_2 q253_3 q253_4 q253_5 q253_6) e253 q253_0 rfl rfl pd_rm0_2 rfl (Nat.le_of_eq rfl) (by decide) (by decide) rfl rfl (by decide) (by decide)
      obtain ⟨rfl, Nq260, Kq260, q260_0, q260_1, q260_2, q260_3, q260_4, q260_5, q260_6⟩ := Q260
      have N260 := Fr.app N253 Nq260
      obtain ⟨h260, e260⟩ : ∃ h, T260.heap = h := ⟨_, rfl⟩
      rw [e260] at Kq260 q260_0 q260_1 q260_2 q260_3 q260_4 q260_5 q260_6
      have Z260 : n0 ≤ h260.size := Nat.le_trans Z253 Kq260.1
      have f261 := f255.keep Kq260 (by intro x q; simp only [List.mem_cons, List.not_mem_nil, or_false] at q; rcases q with rfl; exact G238)
      have f262 := f256.keep Kq260
      have f263 := f257.keep Kq260
      have f264 := q253_0.keep Kq260
      have f265 := q253_7.keep Kq260
      have f266 := q253_8.keep Kq260 (by simp only [List.mem_cons, List.not_mem_nil, or_false, not_or]; exact (ne_exa q253_7 q253_0 (by decide)))
      have k260 : Go p e below m W T260 88 #[.val (.int p1), .val (.int p2), .val (.int p3), .val (.int p4), .val (.int (1 : Int32)), .val (.int u153_S0), .val (.int (1 : Int32)), .val (.ref ro_229), .val (.ref ro_233), .val (.ref b238), .unset, .unset, .unset, .unset, .unset] [(.ref b238)] := k260
      rw [e260] at D260 hS260
      have C260 := C253.trans D260
      have sf267 := D260.safe q253_0.lt sf254
      have k268 : Go p e below m W T260 90 #[.val (.int p1), .val (.int p2), .val (.int p3), .val (.int p4), .val (.int (1 : Int32)), .val (.int u153_S0), .val (.int (1 : Int32)), .val (.ref ro_229), .val (.ref ro_233), .val (.ref b238), .val (.ref b238), .unset, .unset, .unset, .unset] [] := k260.astore X260 hx (hb hby at_88) rfl rfl
      have k269 : Go p e below m W T260 94 #[.val (.int p1), .val (.int p2), .val (.int p3), .val (.int p4), .val (.int (1 : Int32)), .val (.int u153_S0), .val (.int (1 : Int32)), .val (.ref ro_229), .val (.ref ro_233), .val (.ref b238), .val (.ref b238), .val (.ref b238), .unset, .unset, .unset] [] := (k268.aload X260 hx (hb hby at_90) rfl rfl).astore X260 hx (hb hby at_92) rfl rfl
      have k270 : Go p e below m W T260 103 #[.val (.int p1), .val (.int p2), .val (.int p3), .val (.int p4), .val (.int (1 : Int32)), .val (.int u153_S0), .val (.int (1 : Int32)), .val (.ref ro_229), .val (.ref ro_233), .val (.ref b238), .val (.ref b238), .val (.ref b238), .unset, .unset, .unset] [(.ref ro_233), (.ref b238)] := (((k269.iload X260 hx (hb hby at_94) rfl).ifNo X260 hx (hb hby at_96) (XT.i0_eq_f (by decide))).aload X260 hx (hb hby at_99) rfl rfl).aload X260 hx (hb hby at_101) rfl rfl
      obtain ⟨T271, v271, L271, X271, Q271, D271, hS271, hZ271, hown271, k271⟩ := k270.virtS (y := (⟨"com/example/ikat/ikat/core/LinkEdit", "destination", "(Ljava/lang/String;)Lcom/example/ikat/ikat/core/LinkEdit;"⟩ : MethodName)) (z := (⟨"com/example/ikat/ikat/core/LinkEdit", "destination", "(Ljava/lang/String;)Lcom/example/ikat/ikat/core/LinkEdit;"⟩ : MethodName)) (Wd := 0) (cells' := 17) (slots' := 126) (xs := []) (argsL := [(.ref ro_233)]) (rest := []) X260 hx hZ260 hown260 (by rw [hml]; rfl) (hv 56 rfl) (hv 57 rfl) (notFace_of_selects (args := #[]) (mvT (s := s.setVm T260.vm) hZ260 (hv 59 rfl))) (hv 59 rfl) (hv 58 rfl) (hv 60 rfl) (hv 39 rfl) (hb hby at_103) (by decide) hS260 (Nat.le_refl _) own_EL C260.1 sf0 (rmsd l Z a0 hw [] b238 ro_233 (.ref ro_229) (.ref rb_253) (.int (0 : Int32)) .null (.int (0 : Int32)) .null h260 n0 Z260 q260_0 G238 f263 q260_1 q260_2 q260_3 q260_4 q260_5 q260_6) e260 q260_0 rfl rfl pd_rm0_2 rfl (Nat.le_of_eq rfl) (by decide) (by decide) rfl rfl (by decide) (by decide)
      obtain ⟨rfl, Nq271, Kq271, q271_0, q271_1, q271_2, q271_3, q271_4, q271_5, q271_6⟩ := Q271
      have N271 := Fr.app N260 Nq271
      obtain ⟨h271, e271⟩ : ∃ h, T271.heap = h := ⟨_, rfl⟩
      rw [e271] at Kq271 q271_0 q271_1 q271_2 q271_3 q271_4 q271_5 q271_6
      have Z271 : n0 ≤ h271.size := Nat.le_trans Z260 Kq271.1
      have f272 := f261.keep Kq271 (by intro x q; simp only [List.mem_cons, List.not_mem_nil, or_false] at q; rcases q with rfl; exact G238)
      have f273 := f262.keep Kq271
      have f274 := f263.keep Kq271
      have f275 := q260_0.keep Kq271
      have f276 := f265.keep Kq271
      have f277 := f266.keep Kq271 (by simp only [List.mem_cons, List.not_mem_nil, or_false, not_or]; exact (ne_exa f265 q260_0 (by decide)))
      have k271 : Go p e below m W T271 106 #[.val (.int p1), .val (.int p2), .val (.int p3), .val (.int p4), .val (.int (1 : Int32)), .val (.int u153_S0), .val (.int (1 : Int32)), .val (.ref ro_229), .val (.ref ro_233), .val (.ref b238), .val (.ref b238), .val (.ref b238), .unset, .unset, .unset] [(.ref b238)] := k271
      rw [e271] at D271 hS271
      have C271 := C260.trans D271
      have sf278 := D271.safe q260_0.lt sf267
      have k279 : Go p e below m W T271 108 #[.val (.int p1), .val (.int p2), .val (.int p3), .val (.int p4), .val (.int (1 : Int32)), .val (.int u153_S0), .val (.int (1 : Int32)), .val (.ref ro_229), .val (.ref ro_233), .val (.ref b238), .val (.ref b238), .val (.ref b238), .unset, .unset, .unset] [] := k271.astore X271 hx (hb hby at_106) rfl rfl
      have k280 : Go p e below m W T271 122 #[.val (.int p1), .val (.int p2), .val (.int p3), .val (.int p4), .val (.int (1 : Int32)), .val (.int u153_S0), .val (.int (1 : Int32)), .val (.ref ro_229), .val (.ref ro_233), .val (.ref b238), .val (.ref b238), .val (.ref b238), .val (.ref ro_233), .unset, .unset] [] := ((((k279.iload X271 hx (hb hby at_108) rfl).ifNo X271 hx (hb hby at_110) (XT.i0_eq_f (by decide))).aload X271 hx (hb hby at_113) rfl rfl).goto X271 hx (hb hby at_115) (by decide) (by decide)).astore X271 hx (hb hby at_120) rfl rfl
      have k281 : Go p e below m W T271 143 #[.val (.int p1), .val (.int p2), .val (.int p3), .val (.int p4), .val (.int (1 : Int32)), .val (.int u153_S0), .val (.int (1 : Int32)), .val (.ref ro_229), .val (.ref ro_233), .val (.ref b238), .val (.ref b238), .val (.ref b238), .val (.ref ro_233), .val (.int (1 : Int32)), .unset] [] := ((((((((k280.aload X271 hx (hb hby at_122) rfl rfl).aload X271 hx (hb hby at_124) rfl rfl).acmpNo X271 hx (hb hby at_126) rfl rfl (XT.aa_ne_f rfl)).aload X271 hx (hb hby at_129) rfl rfl).aload X271 hx (hb hby at_131) rfl rfl).acmpNo X271 hx (hb hby at_133) rfl rfl (XT.aa_ne_f rfl)).iconst X271 hx (hb hby at_136) (v := (1 : Int32)) rfl).goto X271 hx (hb hby at_137) (by decide) (by decide)).istore X271 hx (hb hby at_141) rfl
      have k282 : Go p e below m W T271 150 #[.val (.int p1), .val (.int p2), .val (.int p3), .val (.int p4), .val (.int (1 : Int32)), .val (.int u153_S0), .val (.int (1 : Int32)), .val (.ref ro_229), .val (.ref ro_233), .val (.ref b238), .val (.ref b238), .val (.ref b238), .val (.ref ro_233), .val (.int (1 : Int32)), .unset] [(.ref b238)] := ((k281.iload X271 hx (hb hby at_143) rfl).ifNo X271 hx (hb hby at_145) (XT.i0_eq_f (by decide))).aload X271 hx (hb hby at_148) rfl rfl
      obtain ⟨T283, v283, L283, X283, Q283, k283⟩ := k282.virt (y := (⟨"com/example/ikat/ikat/core/LinkEdit", "destination", "()Ljava/lang/String;"⟩ : MethodName)) (z := (⟨"com/example/ikat/ikat/core/LinkEdit", "destination", "()Ljava/lang/String;"⟩ : MethodName)) (Wd := 0) (cells' := 17) (slots' := 126) (argsL := []) (rest := []) X271 hx hZ271 hown271 (by rw [hml]; rfl) (hv 69 rfl) (hv 70 rfl) (notFace_of_selects (args := #[]) (mvT hZ271 (hv 72 rfl))) (hv 72 rfl) (hv 71 rfl) (hv 73 rfl) (hv 39 rfl) (hb hby at_150) (by decide) (rmg0 l Z a0 hw [] b238 (.ref ro_233) h271 n0 Z271 rfl q271_1) e271 q271_0 rfl rfl pd_rm0_3 rfl (Nat.le_of_eq rfl) (by decide) (by decide) rfl rfl (by decide) (by decide)
      obtain ⟨rfl, Nq283, e283q⟩ := Q283
      have N283 := Fr.app N271 Nq283
      have e283 : T283.heap = h271 := e283q
      have k283 : Go p e below m W T283 153 #[.val (.int p1), .val (.int p2), .val (.int p3), .val (.int p4), .val (.int (1 : Int32)), .val (.int u153_S0), .val (.int (1 : Int32)), .val (.ref ro_229), .val (.ref ro_233), .val (.ref b238), .val (.ref b238), .val (.ref b238), .val (.ref ro_233), .val (.int (1 : Int32)), .unset] [(.ref ro_233)] := k283
      have k284 : Go p e below m W T283 165 #[.val (.int p1), .val (.int p2), .val (.int p3), .val (.int p4), .val (.int (1 : Int32)), .val (.int u153_S0), .val (.int (1 : Int32)), .val (.ref ro_229), .val (.ref ro_233), .val (.ref b238), .val (.ref b238), .val (.ref b238), .val (.ref ro_233), .val (.int (1 : Int32)), .unset] [] := ((((k283.aload X283 hx (hb hby at_153) rfl rfl).acmpNo X283 hx (hb hby at_155) rfl rfl (XT.aa_ne_f rfl)).iconst X283 hx (hb hby at_158) (v := (1 : Int32)) rfl).goto X283 hx (hb hby at_159) (by decide) (by decide)).istore X283 hx (hb hby at_163) rfl
      have k285 : Go p e below m W T283 167 #[.val (.int p1), .val (.int p2), .val (.int p3), .val (.int p4), .val (.int (1 : Int32)), .val (.int u153_S0), .val (.int (1 : Int32)), .val (.ref ro_229), .val (.ref ro_233), .val (.ref b238), .val (.ref b238), .val (.ref b238), .val (.ref ro_233), .val (.int (1 : Int32)), .unset] [(.ref b238)] := k284.aload X283 hx (hb hby at_165) rfl rfl
      obtain ⟨T286, v286, L286, X286, Q286, k286⟩ := k285.virt (y := (⟨"com/example/ikat/ikat/core/LinkEdit", "paused", "()Ljava/lang/Boolean;"⟩ : MethodName)) (z := (⟨"com/example/ikat/ikat/core/LinkEdit", "paused", "()Ljava/lang/Boolean;"⟩ : MethodName)) (Wd := 0) (cells' := 17) (slots' := 126) (argsL := []) (rest := []) X283 hx hZ271 hown271 (by rw [hml]; rfl) (hv 74 rfl) (hv 75 rfl) (notFace_of_selects (args := #[]) (mvT hZ271 (hv 77 rfl))) (hv 77 rfl) (hv 76 rfl) (hv 78 rfl) (hv 39 rfl) (hb hby at_167) (by decide) (rmg1 l Z a0 hw [] b238 (.ref rb_253) h271 n0 Z271 rfl q271_2) e283 q271_0 rfl rfl pd_rm0_4 rfl (Nat.le_of_eq rfl) (by decide) (by decide) rfl rfl (by decide) (by decide)
      obtain ⟨rfl, Nq286, e286q⟩ := Q286
      have N286 := Fr.app N283 Nq286
      have e286 : T286.heap = h271 := e286q
      have k286 : Go p e below m W T286 170 #[.val (.int p1), .val (.int p2), .val (.int p3), .val (.int p4), .val (.int (1 : Int32)), .val (.int u153_S0), .val (.int (1 : Int32)), .val (.ref ro_229), .val (.ref ro_233), .val (.ref b238), .val (.ref b238), .val (.ref b238), .val (.ref ro_233), .val (.int (1 : Int32)), .unset] [(.ref rb_253)] := k286
      have k287 : Go p e below m W T286 172 #[.val (.int p1), .val (.int p2), .val (.int p3), .val (.int p4), .val (.int (1 : Int32)), .val (.int u153_S0), .val (.int (1 : Int32)), .val (.ref ro_229), .val (.ref ro_233), .val (.ref b238), .val (.ref b238), .val (.ref b238), .val (.ref ro_233), .val (.int (1 : Int32)), .val (.ref rb_253)] [] := k286.astore X286 hx (hb hby at_170) rfl rfl
      have k288 : Go p e below m W T286 189 #[.val (.int p1), .val (.int p2), .val (.int p3), .val (.int p4), .val (.int (1 : Int32)), .val (.int u153_S0), .val (.int (1 : Int32)), .val (.ref ro_229), .val (.ref ro_233), .val (.ref b238), .val (.ref b238), .val (.ref b238), .val (.ref ro_233), .val (.int (1 : Int32)), .val (.ref rb_253)] [(.ref rb_253)] := ((((((k287.iload X286 hx (hb hby at_172) rfl).ifNo X286 hx (hb hby at_174) (XT.i0_eq_f (by decide))).iload X286 hx (hb hby at_177) rfl).ifNo X286 hx (hb hby at_179) (XT.i0_eq_f (by decide))).aload X286 hx (hb hby at_182) rfl rfl).nullNo X286 hx (hb hby at_184) rfl (fun q => by cases q)).aload X286 hx (hb hby at_187) rfl rfl
      obtain ⟨T289, v289, L289, X289, Q289, k289⟩ := k288.virt (y := (⟨"java/lang/Boolean", "booleanValue", "()Z"⟩ : MethodName)) (z := (⟨"java/lang/Boolean", "booleanValue", "()Z"⟩ : MethodName)) (Wd := 0) (cells' := 17) (slots' := 126) (argsL := []) (rest := []) X286 hx hZ271 hown271 (by rw [hml]; rfl) (hv 79 rfl) (hv 80 rfl) (notFace_of_selects (args := #[]) (mvT hZ271 (hv 82 rfl))) (hv 82 rfl) (hv 81 rfl) (hv 83 rfl) (hv 51 rfl) (hb hby at_189) (by decide) (rmbl l Z a0 hw [] rb_253 u153_S0 h271 n0 Z271 (by rcases hd153 with ⟨_, q⟩ | ⟨_, q⟩ <;> first | exact Or.inl q | exact Or.inr q) f277) e286 f276 rfl rfl pd_rm0_5 rfl (Nat.le_of_eq rfl) (by decide) (by decide) rfl rfl (by decide) (by decide)
      obtain ⟨rfl, Nq289, e289q⟩ := Q289
      have N289 := Fr.app N286 Nq289
      have e289 : T289.heap = h271 := e289q
      have k289 : Go p e below m W T289 192 #[.val (.int p1), .val (.int p2), .val (.int p3), .val (.int p4), .val (.int (1 : Int32)), .val (.int u153_S0), .val (.int (1 : Int32)), .val (.ref ro_229), .val (.ref ro_233), .val (.ref b238), .val (.ref b238), .val (.ref b238), .val (.ref ro_233), .val (.int (1 : Int32)), .val (.ref rb_253)] [(.int u153_S0)] := k289
      have k290 : Go p e below m W T289 204 #[.val (.int p1), .val (.int p2), .val (.int p3), .val (.int p4), .val (.int (1 : Int32)), .val (.int u153_S0), .val (.int (1 : Int32)), .val (.ref ro_229), .val (.ref ro_233), .val (.ref b238), .val (.ref b238), .val (.ref b238), .val (.ref ro_233), .val (.int (1 : Int32)), .val (.ref rb_253)] [] := ((((k289.iload X289 hx (hb hby at_192) rfl).icmpNo X289 hx (hb hby at_194) (XT.ii_ne_f rfl)).iconst X289 hx (hb hby at_197) (v := (1 : Int32)) rfl).goto X289 hx (hb hby at_198) (by decide) (by decide)).istore X289 hx (hb hby at_202) rfl
      have k291 : Go p e below m W T289 231 #[.val (.int p1), .val (.int p2), .val (.int p3), .val (.int p4), .val (.int (1 : Int32)), .val (.int u153_S0), .val (.int (1 : Int32)), .val (.ref ro_229), .val (.ref ro_233), .val (.ref b238), .val (.ref b238), .val (.ref b238), .val (.ref ro_233), .val (.int (1 : Int32)), .val (.ref rb_253)] [(.ref b238)] := (((k290.goto X289 hx (hb hby at_204) (by decide) (by decide)).iload X289 hx (hb hby at_224) rfl).ifNo X289 hx (hb hby at_226) (XT.i0_eq_f (by decide))).aload X289 hx (hb hby at_229) rfl rfl
      obtain ⟨T292, v292, L292, X292, Q292, k292⟩ := k291.virt (y := (⟨"com/example/ikat/ikat/core/LinkEdit", "changesExpiry", "()Z"⟩ : MethodName)) (z := (⟨"com/example/ikat/ikat/core/LinkEdit", "changesExpiry", "()Z"⟩ : MethodName)) (Wd := 0) (cells' := 17) (slots' := 126) (argsL := []) (rest := []) X289 hx hZ271 hown271 (by rw [hml]; rfl) (hv 86 rfl) (hv 87 rfl) (notFace_of_selects (args := #[]) (mvT hZ271 (hv 89 rfl))) (hv 89 rfl) (hv 88 rfl) (hv 90 rfl) (hv 39 rfl) (hb hby at_231) (by decide) (rmg2 l Z a0 hw [] b238 (0 : Int32) h271 n0 Z271 (Or.inl rfl) q271_3) e289 q271_0 rfl rfl pd_rm0_5 rfl (Nat.le_of_eq rfl) (by decide) (by decide) rfl rfl (by decide) (by decide)
      obtain ⟨rfl, Nq292, e292q⟩ := Q292
      have N292 := Fr.app N289 Nq292
      have e292 : T292.heap = h271 := e292q
      have k292 : Go p e below m W T292 234 #[.val (.int p1), .val (.int p2), .val (.int p3), .val (.int p4), .val (.int (1 : Int32)), .val (.int u153_S0), .val (.int (1 : Int32)), .val (.ref ro_229), .val (.ref ro_233), .val (.ref b238), .val (.ref b238), .val (.ref b238), .val (.ref ro_233), .val (.int (1 : Int32)), .val (.ref rb_253)] [(.int (0 : Int32))] := k292
      have k293 : Go p e below m W T292 244 #[.val (.int p1), .val (.int p2), .val (.int p3), .val (.int p4), .val (.int (1 : Int32)), .val (.int u153_S0), .val (.int (1 : Int32)), .val (.ref ro_229), .val (.ref ro_233), .val (.ref b238), .val (.ref b238), .val (.ref b238), .val (.ref ro_233), .val (.int (1 : Int32)), .val (.ref rb_253)] [] := (((k292.ifNo X292 hx (hb hby at_234) (XT.i0_ne_f (by decide))).iconst X292 hx (hb hby at_237) (v := (1 : Int32)) rfl).goto X292 hx (hb hby at_238) (by decide) (by decide)).istore X292 hx (hb hby at_242) rfl
      have k294 : Go p e below m W T292 251 #[.val (.int p1), .val (.int p2), .val (.int p3), .val (.int p4), .val (.int (1 : Int32)), .val (.int u153_S0), .val (.int (1 : Int32)), .val (.ref ro_229), .val (.ref ro_233), .val (.ref b238), .val (.ref b238), .val (.ref b238), .val (.ref ro_233), .val (.int (1 : Int32)), .val (.ref rb_253)] [(.ref b238)] := ((k293.iload X292 hx (hb hby at_244) rfl).ifNo X292 hx (hb hby at_246) (XT.i0_eq_f (by decide))).aload X292 hx (hb hby at_249) rfl rfl
      obtain ⟨T295, v295, L295, X295, Q295, k295⟩ := k294.virt (y := (⟨"com/example/ikat/ikat/core/LinkEdit", "expiresAt", "()Ljava/time/Instant;"⟩ : MethodName)) (z := (⟨"com/example/ikat/ikat/core/LinkEdit", "expiresAt", "()Ljava/time/Instant;"⟩ : MethodName)) (Wd := 0) (cells' := 17) (slots' := 126) (argsL := []) (rest := []) X292 hx hZ271 hown271 (by rw [hml]; rfl) (hv 93 rfl) (hv 94 rfl) (notFace_of_selects (args := #[]) (mvT hZ271 (hv 96 rfl))) (hv 96 rfl) (hv 95 rfl) (hv 97 rfl) (hv 39 rfl) (hb hby at_251) (by decide) (rmg3 l Z a0 hw [] b238 .null h271 n0 Z271 rfl q271_4) e292 q271_0 rfl rfl pd_rm0_6 rfl (Nat.le_of_eq rfl) (by decide) (by decide) rfl rfl (by decide) (by decide)
      obtain ⟨rfl, Nq295, e295q⟩ := Q295
      have N295 := Fr.app N292 Nq295
      have e295 : T295.heap = h271 := e295q
      have k295 : Go p e below m W T295 254 #[.val (.int p1), .val (.int p2), .val (.int p3), .val (.int p4), .val (.int (1 : Int32)), .val (.int u153_S0), .val (.int (1 : Int32)), .val (.ref ro_229), .val (.ref ro_233), .val (.ref b238), .val (.ref b238), .val (.ref b238), .val (.ref ro_233), .val (.int (1 : Int32)), .val (.ref rb_253)] [.null] := k295
      have k296 : Go p e below m W T295 264 #[.val (.int p1), .val (.int p2), .val (.int p3), .val (.int p4), .val (.int (1 : Int32)), .val (.int u153_S0), .val (.int (1 : Int32)), .val (.ref ro_229), .val (.ref ro_233), .val (.ref b238), .val (.ref b238), .val (.ref b238), .val (.ref ro_233), .val (.int (1 : Int32)), .val (.ref rb_253)] [] := (((k295.nonnullNo X295 hx (hb hby at_254) rfl).iconst X295 hx (hb hby at_257) (v := (1 : Int32)) rfl).goto X295 hx (hb hby at_258) (by decide) (by decide)).istore X295 hx (hb hby at_262) rfl
      have k297 : Go p e below m W T295 271 #[.val (.int p1), .val (.int p2), .val (.int p3), .val (.int p4), .val (.int (1 : Int32)), .val (.int u153_S0), .val (.int (1 : Int32)), .val (.ref ro_229), .val (.ref ro_233), .val (.ref b238), .val (.ref b238), .val (.ref b238), .val (.ref ro_233), .val (.int (1 : Int32)), .val (.ref rb_253)] [(.ref b238)] := ((k296.iload X295 hx (hb hby at_264) rfl).ifNo X295 hx (hb hby at_266) (XT.i0_eq_f (by decide))).aload X295 hx (hb hby at_269) rfl rfl
      obtain ⟨T298, v298, L298, X298, Q298, k298⟩ := k297.virt (y := (⟨"com/example/ikat/ikat/core/LinkEdit", "changesMaxVisits", "()Z"⟩ : MethodName)) (z := (⟨"com/example/ikat/ikat/core/LinkEdit", "changesMaxVisits", "()Z"⟩ : MethodName)) (Wd := 0) (cells' := 17) (slots' := 126) (argsL := []) (rest := []) X295 hx hZ271 hown271 (by rw [hml]; rfl) (hv 100 rfl) (hv 101 rfl) (notFace_of_selects (args := #[]) (mvT hZ271 (hv 103 rfl))) (hv 103 rfl) (hv 102 rfl) (hv 104 rfl) (hv 39 rfl) (hb hby at_271) (by decide) (rmg4 l Z a0 hw [] b238 (0 : Int32) h271 n0 Z271 (Or.inl rfl) q271_5) e295 q271_0 rfl rfl pd_rm0_5 rfl (Nat.le_of_eq rfl) (by decide) (by decide) rfl rfl (by decide) (by decide)
      obtain ⟨rfl, Nq298, e298q⟩ := Q298
      have N298 := Fr.app N295 Nq298
      have e298 : T298.heap = h271 := e298q
      have k298 : Go p e below m W T298 274 #[.val (.int p1), .val (.int p2), .val (.int p3), .val (.int p4), .val (.int (1 : Int32)), .val (.int u153_S0), .val (.int (1 : Int32)), .val (.ref ro_229), .val (.ref ro_233), .val (.ref b238), .val (.ref b238), .val (.ref b238), .val (.ref ro_233), .val (.int (1 : Int32)), .val (.ref rb_253)] [(.int (0 : Int32))] := k298
      have k299 : Go p e below m W T298 284 #[.val (.int p1), .val (.int p2), .val (.int p3), .val (.int p4), .val (.int (1 : Int32)), .val (.int u153_S0), .val (.int (1 : Int32)), .val (.ref ro_229), .val (.ref ro_233), .val (.ref b238), .val (.ref b238), .val (.ref b238), .val (.ref ro_233), .val (.int (1 : Int32)), .val (.ref rb_253)] [] := (((k298.ifNo X298 hx (hb hby at_274) (XT.i0_ne_f (by decide))).iconst X298 hx (hb hby at_277) (v := (1 : Int32)) rfl).goto X298 hx (hb hby at_278) (by decide) (by decide)).istore X298 hx (hb hby at_282) rfl
      have k300 : Go p e below m W T298 291 #[.val (.int p1), .val (.int p2), .val (.int p3), .val (.int p4), .val (.int (1 : Int32)), .val (.int u153_S0), .val (.int (1 : Int32)), .val (.ref ro_229), .val (.ref ro_233), .val (.ref b238), .val (.ref b238), .val (.ref b238), .val (.ref ro_233), .val (.int (1 : Int32)), .val (.ref rb_253)] [(.ref b238)] := ((k299.iload X298 hx (hb hby at_284) rfl).ifNo X298 hx (hb hby at_286) (XT.i0_eq_f (by decide))).aload X298 hx (hb hby at_289) rfl rfl
      obtain ⟨T301, v301, L301, X301, Q301, k301⟩ := k300.virt (y := (⟨"com/example/ikat/ikat/core/LinkEdit", "maxVisits", "()Ljava/lang/Integer;"⟩ : MethodName)) (z := (⟨"com/example/ikat/ikat/core/LinkEdit", "maxVisits", "()Ljava/lang/Integer;"⟩ : MethodName)) (Wd := 0) (cells' := 17) (slots' := 126) (argsL := []) (rest := []) X298 hx hZ271 hown271 (by rw [hml]; rfl) (hv 107 rfl) (hv 108 rfl) (notFace_of_selects (args := #[]) (mvT hZ271 (hv 110 rfl))) (hv 110 rfl) (hv 109 rfl) (hv 111 rfl) (hv 39 rfl) (hb hby at_291) (by decide) (rmg5 l Z a0 hw [] b238 .null h271 n0 Z271 rfl q271_6) e298 q271_0 rfl rfl pd_rm0_7 rfl (Nat.le_of_eq rfl) (by decide) (by decide) rfl rfl (by decide) (by decide)
      obtain ⟨rfl, Nq301, e301q⟩ := Q301
      have N301 := Fr.app N298 Nq301
      have e301 : T301.heap = h271 := e301q
      have k301 : Go p e below m W T301 294 #[.val (.int p1), .val (.int p2), .val (.int p3), .val (.int p4), .val (.int (1 : Int32)), .val (.int u153_S0), .val (.int (1 : Int32)), .val (.ref ro_229), .val (.ref ro_233), .val (.ref b238), .val (.ref b238), .val (.ref b238), .val (.ref ro_233), .val (.int (1 : Int32)), .val (.ref rb_253)] [.null] := k301
      have k302 : Go p e below m W T301 304 #[.val (.int p1), .val (.int p2), .val (.int p3), .val (.int p4), .val (.int (1 : Int32)), .val (.int u153_S0), .val (.int (1 : Int32)), .val (.ref ro_229), .val (.ref ro_233), .val (.ref b238), .val (.ref b238), .val (.ref b238), .val (.ref ro_233), .val (.int (1 : Int32)), .val (.ref rb_253)] [] := (((k301.nonnullNo X301 hx (hb hby at_294) rfl).iconst X301 hx (hb hby at_297) (v := (1 : Int32)) rfl).goto X301 hx (hb hby at_298) (by decide) (by decide)).istore X301 hx (hb hby at_302) rfl
      have k303 : Go p e below m W T301 306 #[.val (.int p1), .val (.int p2), .val (.int p3), .val (.int p4), .val (.int (1 : Int32)), .val (.int u153_S0), .val (.int (1 : Int32)), .val (.ref ro_229), .val (.ref ro_233), .val (.ref b238), .val (.ref b238), .val (.ref b238), .val (.ref ro_233), .val (.int (1 : Int32)), .val (.ref rb_253)] [(.int (1 : Int32))] := k302.iload X301 hx (hb hby at_304) rfl
      exact k303.ireturnNS X301 hx hZ271 own_EL hS271 (Nat.le_refl _) e301 (by rw [hh]; exact C271) (t := .boolean) Bd.returns (by simp) rfl (hb hby at_306) (BodyLoose.notSynchronized Bd) (by rw [e301]; exact ⟨rfl, N301⟩) (by decide) (by decide)

set_option maxRecDepth 65536 in
set_option maxHeartbeats 40000000 in
theorem comes_1 {Post : Tables → Env → Array Value → State → Outcome → State → Prop} (hpost : ∀ tb e args s v u, (limb_1_1.after args s (.returned v) u = true ∧ limb_1_2.after args s (.returned v) u = true ∧ True) → ReturnedEndW s (.returned v) u (Jvm.fieldLocs frame_1_writes args s ++ Jvm.arrayLocs frame_1_arrays args s ++ Jvm.staticLocs frame_1_statics s) 32 2176 → Post tb e args s (.returned v) u) :
    ArmFor flags0 classFile x code maxLocals ret World_1 tables_1 room_1 Calls_1 rest_1 Pre_1 Post := by
  intro l hfl _ _ p e ha hc hk s m args below hf hA hF happ hP
  obtain ⟨hcalls, hrest, hpre⟩ := hP
  obtain ⟨-, -, -, hnamed, -, -, -, hat⟩ := (Spec.applies_iff hf).mp happ
  obtain ⟨hg, hn⟩ := and_e (Cond.before_iff.mp (show (Jvm.Cond.and given_1 narrow_1).before args s = true from hpre))
  obtain ⟨ga, gb⟩ := and_e hg
  obtain ⟨w0, w1, w2, w3, rfl⟩ : ∃ w0 w1 w2 w3 : Value, args = #[w0, w1, w2, w3] := by
    have hs : args.size = 4 := by simpa [Cond.value, given_1] using ga
    obtain ⟨L⟩ := args
    match L, hs with
    | [w0, w1, w2, w3], _ => exact ⟨w0, w1, w2, w3, rfl⟩
  have hw := fun d (hd : d ∈ tables_1) => atoms_spec (ws := Jvm.Cond.code x code maxLocals ret :: tables_1) hat d (List.mem_cons_of_mem _ hd)
  have hv : ∀ (i : Nat) {d : Jvm.Cond}, tables_1[i]? = some d → d.before _ s = true := fun i d q => hw d (List.mem_of_getElem? q)
  have hfit : Fit s := fun {y c} hc i hi => by
    obtain ⟨ha, rfl⟩ := Array.getElem?_eq_some_iff.mp hc
    have q := List.all_eq_true.mp ((Array.all_eq_true_iff_forall_mem.mp hF) _ (Array.getElem_mem ha)) i (List.mem_range.mpr hi)
    simpa [Array.getElem?_eq_getElem hi] using q
  obtain ⟨gi0, gr0⟩ := and_e gb
  obtain ⟨i0, ei0⟩ := is_v gi0
  obtain rfl : w0 = (.int i0) := Option.some.inj ei0
  obtain ⟨gi1, gr1⟩ := and_e gr0
  obtain ⟨i1, ei1⟩ := is_v gi1
  obtain rfl : w1 = (.int i1) := Option.some.inj ei1
  obtain ⟨gi2, gr2⟩ := and_e gr1
  obtain ⟨i2, ei2⟩ := is_v gi2
  obtain rfl : w2 = (.int i2) := Option.some.inj ei2
  obtain ⟨i3, ei3⟩ := is_v gr2
  obtain rfl : w3 = (.int i3) := Option.some.inj ei3
  have O0 : Old s s.heap.size s.heap := Old.start s
  obtain ⟨hsets, hown0⟩ := atoms_of _ (rest_1_c_eq ▸ (show rest_1_c.before _ s = true from hrest))
  have n3 := not_v (Cond.before_iff.mp (hsets _ (List.mem_of_getElem? (i := 2) rfl)))
  obtain ⟨cz, ecz⟩ := is_v (Cond.before_iff.mp (hsets _ (List.mem_of_getElem? (i := 1) rfl)))
  have S_cz : Sta s s.heap "java/lang/String" "COMPACT_STRINGS" "Z" (.int cz) := Sta.start ecz (Or.inl (hsets _ (List.mem_of_getElem? (i := 0) rfl)))
  have hcz : ¬ (cz = (0 : Int32)) := gotF (Cond.eq_ints ecz (Term.int_eval (0))) n3
  obtain ⟨bt, ebt⟩ := exa_v (Cond.before_iff.mp (hsets _ (List.mem_of_getElem? (i := 15) rfl)))
  have St : Sta s s.heap "java/lang/Boolean" "TRUE" "Ljava/lang/Boolean;" (.ref bt) := Sta.start ebt (Or.inl (hsets _ (List.mem_of_getElem? (i := 14) rfl)))
  have Et : Exa s s.heap bt "java/lang/Boolean" := Exa.start ebt (Cond.before_iff.mp (hsets _ (List.mem_of_getElem? (i := 15) rfl)))
  have Ft : Fld s s.heap bt "java/lang/Boolean" "value" "Z" (.int (1 : Int32)) := Fld.start ((fld_at ebt).symm.trans (own_eqi (Cond.before_iff.mp (hsets _ (List.mem_of_getElem? (i := 16) rfl)))))
  obtain ⟨bf, ebf⟩ := exa_v (Cond.before_iff.mp (hsets _ (List.mem_of_getElem? (i := 11) rfl)))
  have Sf : Sta s s.heap "java/lang/Boolean" "FALSE" "Ljava/lang/Boolean;" (.ref bf) := Sta.start ebf (Or.inl (hsets _ (List.mem_of_getElem? (i := 10) rfl)))
  have Ef : Exa s s.heap bf "java/lang/Boolean" := Exa.start ebf (Cond.before_iff.mp (hsets _ (List.mem_of_getElem? (i := 11) rfl)))
  have Ff : Fld s s.heap bf "java/lang/Boolean" "value" "Z" (.int (0 : Int32)) := Fld.start ((fld_at ebf).symm.trans (own_eqi (Cond.before_iff.mp (hsets _ (List.mem_of_getElem? (i := 12) rfl)))))
  have hcv : CHv s own_L s.vm s.heap := CHv.start (own_EL0 hw) (fun p hp => hcalls.1 p (by revert p hp; decide)) (hsets _ (List.mem_of_getElem? (i := 2) rfl)) (hv 23 rfl) (hv 5 rfl)
  obtain ⟨n, o, h1, h2, h3, _, L, rfl, ⟨rfl, N⟩, -, hq⟩ := rm0 l s _ hw tables_1 i0 i1 i2 i3 cz bt bf s.heap s.heap.size (Nat.le_refl _) O0 S_cz hcz St Et Ft Sf Ef Ff p e ha hc hk s m _ below hf ((Spec.applies_iff_loose hf).mp happ).1 ⟨rfl, State.Warmed39.refl s, rfl, hcv, fun _ q => nomatch q⟩ trivial
  refine ⟨n, _, h1, h2, h3, hpost _ _ _ _ _ _ ⟨Cond.after_iff.mpr rfl, Cond.after_iff.mpr (eq_i res_at (Term.int_eval (1)) rfl), trivial⟩ ⟨hq.1, hq.2.1, hq.2.2.1, (hq.2.2.2.sift fun y hy => Or.inr (N y hy)).mono (by decide) (by decide)⟩⟩
theorem main_1_1 : Claimed_1_1 := comes_1 fun _ _ _ _ _ _ h hF => ⟨h.1, hF⟩
theorem main_1_2 : Claimed_1_2 := comes_1 fun _ _ _ _ _ _ h hF => ⟨h.2.1, hF⟩
end Jvm.Pilot.@@N@@
namespace Jvm.Pilot.@@N@@
open Jvm Jvm.ClassFile Sem Op Lib Jvm.Free Jvm.Stand Jvm.Pilot.@@N@@.Jvm.D
/-! MADE BY PROGRAM (witnessworld.py) out of the Statement's table words and the real class files: 22 classes; the members and pool entries that the words name. The judged class is class 1, her method 2. -/
namespace start1
open Jvm.ClassFile
def u (s : String) : CpInfo := .utf8 (stringToUtf16 s)
/-- a pool by its gaps: so many unusable entries, then the entry; so many at the end -/
def gap : Nat → List CpInfo → List CpInfo
  | 0, r => r
  | n + 1, r => .unusable :: gap n r
def poolList (es : List (Nat × CpInfo)) (last : Nat) : List CpInfo := es.foldr (fun e r => gap e.1 (e.2 :: r)) (gap last [])
def pool (es : List (Nat × CpInfo)) (last : Nat) : Array CpInfo := ⟨poolList es last⟩
def fileOf (pool : Array CpInfo) (this : Nat) (attrs : Array Attribute := #[]) (ms : Array MethodInfo := #[]) (fl : Nat := 33) (sup : Nat := 0) (ifs : Array Nat := #[]) (fds : Array FieldInfo := #[]) : ClassFile where
  minorVersion := 0
  majorVersion := 65
  constantPool := pool
  accessFlags := fl
  thisClass := this
  superClass := sup
  interfaces := ifs
  fields := fds
  methods := ms
  attributes := attrs
def plain (name : String) (sup : Option ClassId) : Class where
  name := name
  kind := .ordinary
  loader := none
  accessFlags := 33
  super := sup
  interfaces := #[]
  cf := none
  fields := #[]
  methods := #[]
  instanceTypes := #[]
  staticTypes := #[]
  resolved := #[]
  callSites := []
  init := .initialized
  statics := none
  mirror := none

def pool0 : Array CpInfo := pool [(5, u "<init>"), (0, u "()V"), (1, .class_ 10), (1, u "java/lang/Object")] 113

def k0c0 : Code := { maxStack := 0, maxLocals := 1, code := object_method_1_code, exceptionTable := #[], attributes := #[] }
def k0m0 : Method := { name := "<init>", desc := "()V", sig := { parameters := [], returnType := none }, accessFlags := 1, code := some k0c0 }
/-- java/lang/Object -/
def k0 : Class := { plain "java/lang/Object" none with
  accessFlags := 33
  interfaces := #[]
  cf := some (fileOf pool0 8 #[] #[{ accessFlags := 1, nameIndex := 5, descriptorIndex := 6, attributes := #[] }] 33 0 #[] #[])
  fields := #[]
  methods := #[k0m0]
  instanceTypes := #[]
  staticTypes := #[]
  resolved := Array.replicate 124 none
  statics := none }

def pool1 : Array CpInfo := pool [(2, .class_ 4), (0, .nameAndType 5 6), (0, u "java/lang/Object"), (0, u "<init>"), (0, u "()V"), (0, .class_ 8), (0, u "java/lang/String"), (0, .methodref 7 10), (0, .nameAndType 5 11), (0, u "([C)V"), (0, .methodref 13 14), (0, .class_ 15), (0, .nameAndType 16 17), (0, u "com/example/ikat/ikat/core/LinkEditDestinationPinLaw"), (0, u "str"), (0, u "(II)Ljava/lang/String;"), (0, .class_ 19), (0, u "com/example/ikat/ikat/core/LinkEdit"), (0, .methodref 18 3), (0, .methodref 18 22), (0, .nameAndType 23 24), (0, u "paused"), (0, u "(Z)Lcom/example/ikat/ikat/core/LinkEdit;"), (0, .methodref 18 26), (0, .nameAndType 27 28), (0, u "destination"), (0, u "(Ljava/lang/String;)Lcom/example/ikat/ikat/core/LinkEdit;"), (0, .methodref 18 30), (0, .nameAndType 27 31), (0, u "()Ljava/lang/String;"), (0, .methodref 18 33), (0, .nameAndType 23 34), (0, u "()Ljava/lang/Boolean;"), (0, .methodref 36 37), (0, .class_ 38), (0, .nameAndType 39 40), (0, u "java/lang/Boolean"), (0, u "booleanValue"), (0, u "()Z"), (0, .methodref 18 42), (0, .nameAndType 43 40), (0, u "changesExpiry"), (0, .methodref 18 45), (0, .nameAndType 46 47), (0, u "expiresAt"), (0, u "()Ljava/time/Instant;"), (0, .methodref 18 49), (0, .nameAndType 50 40), (0, u "changesMaxVisits"), (0, .methodref 18 52), (0, .nameAndType 53 54), (0, u "maxVisits"), (0, u "()Ljava/lang/Integer;"), (3, u "law"), (0, u "(IIII)Z")] 2

def k1m0 : Method := { name := "<init>", desc := "()V", sig := { parameters := [], returnType := none }, accessFlags := 1, code := none }
def k1c1 : Code := { maxStack := 6, maxLocals := 5, code := method_2_code, exceptionTable := #[], attributes := #[] }
def k1m1 : Method := { name := "str", desc := "(II)Ljava/lang/String;", sig := { parameters := [.int, .int], returnType := some (.object "java/lang/String") }, accessFlags := 10, code := some k1c1 }
def k1c2 : Code := { maxStack := 3, maxLocals := 15, code := code, exceptionTable := #[], attributes := #[] }
def k1m2 : Method := { name := "law", desc := "(IIII)Z", sig := { parameters := [.int, .int, .int, .int], returnType := some .boolean }, accessFlags := 9, code := some k1c2 }
/-- com/example/ikat/ikat/core/LinkEditDestinationPinLaw -/
def k1 : Class := { plain "com/example/ikat/ikat/core/LinkEditDestinationPinLaw" (some 0) with
  accessFlags := 49
  interfaces := #[]
  cf := some (fileOf pool1 13 #[] #[{ accessFlags := 1, nameIndex := 5, descriptorIndex := 6, attributes := #[] }, { accessFlags := 10, nameIndex := 16, descriptorIndex := 17, attributes := #[] }, { accessFlags := 9, nameIndex := 58, descriptorIndex := 59, attributes := #[] }] 49 2 #[] #[])
  fields := #[]
  methods := #[k1m0, k1m1, k1m2]
  instanceTypes := #[]
  staticTypes := #[]
  resolved := Array.replicate 62 none
  statics := none }

def pool2 : Array CpInfo := pool [(1, .class_ 2), (0, u "java/io/Serializable"), (0, .class_ 4), (0, u "java/lang/Object")] 2

/-- java/io/Serializable -/
def k2 : Class := { plain "java/io/Serializable" (some 0) with
  accessFlags := 1537
  interfaces := #[]
  cf := some (fileOf pool2 1 #[] #[] 1537 3 #[] #[])
  fields := #[]
  methods := #[]
  instanceTypes := #[]
  staticTypes := #[]
  resolved := Array.replicate 7 none
  statics := none }

def pool3 : Array CpInfo := pool [(1, .class_ 2), (0, u "java/lang/Comparable"), (0, .class_ 4), (0, u "java/lang/Object")] 7

/-- java/lang/Comparable -/
def k3 : Class := { plain "java/lang/Comparable" (some 0) with
  accessFlags := 1537
  interfaces := #[]
  cf := some (fileOf pool3 1 #[] #[] 1537 3 #[] #[])
  fields := #[]
  methods := #[]
  instanceTypes := #[]
  staticTypes := #[]
  resolved := Array.replicate 12 none
  statics := none }

def pool4 : Array CpInfo := pool [(2, .class_ 4), (1, u "java/lang/CharSequence"), (42, .class_ 48), (0, u "java/lang/CharSequence$1CodePointIterator"), (10, .class_ 60), (0, u "java/lang/CharSequence$1CharIterator"), (5, .class_ 67), (0, u "java/lang/Object")] 63

/-- java/lang/CharSequence -/
def k4 : Class := { plain "java/lang/CharSequence" (some 0) with
  accessFlags := 1537
  interfaces := #[]
  cf := some (fileOf pool4 2 #[.nestMembers #[47, 59]] #[] 1537 66 #[] #[])
  fields := #[]
  methods := #[]
  instanceTypes := #[]
  staticTypes := #[]
  resolved := Array.replicate 131 none
  statics := none }

def pool5 : Array CpInfo := pool [(1, .class_ 2), (0, u "java/lang/constant/Constable"), (0, .class_ 4), (0, u "java/lang/Object")] 6

/-- java/lang/constant/Constable -/
def k5 : Class := { plain "java/lang/constant/Constable" (some 0) with
  accessFlags := 1537
  interfaces := #[]
  cf := some (fileOf pool5 1 #[] #[] 1537 3 #[] #[])
  fields := #[]
  methods := #[]
  instanceTypes := #[]
  staticTypes := #[]
  resolved := Array.replicate 11 none
  statics := none }

def pool6 : Array CpInfo := pool [(1, .class_ 2), (0, u "java/lang/constant/ConstantDesc"), (0, .class_ 4), (0, u "java/lang/Object")] 32

/-- java/lang/constant/ConstantDesc -/
def k6 : Class := { plain "java/lang/constant/ConstantDesc" (some 0) with
  accessFlags := 1537
  interfaces := #[]
  cf := some (fileOf pool6 1 #[] #[] 1537 3 #[] #[])
  fields := #[]
  methods := #[]
  instanceTypes := #[]
  staticTypes := #[]
  resolved := Array.replicate 37 none
  statics := none }

def pool7 : Array CpInfo := pool [(1, .methodref 2 3), (0, .class_ 4), (0, .nameAndType 5 6), (0, u "java/lang/Object"), (0, u "<init>"), (0, u "()V"), (0, .string 8), (0, u ""), (0, .fieldref 10 11), (0, .class_ 12), (0, .nameAndType 13 14), (0, u "java/lang/String"), (0, u "value"), (0, u "[B"), (0, .fieldref 10 16), (0, .nameAndType 17 18), (0, u "coder"), (0, u "B"), (2, u "hash"), (0, u "I"), (2, u "hashIsZero"), (0, u "Z"), (0, .methodref 10 28), (0, .nameAndType 5 29), (0, u "([CIILjava/lang/Void;)V"), (8, .fieldref 10 39), (0, .nameAndType 40 26), (0, u "COMPACT_STRINGS"), (1, .class_ 44), (1, u "java/lang/StringUTF16"), (0, u "compress"), (1, .methodref 42 48), (0, .nameAndType 49 50), (0, u "coderFromArrayLen"), (0, u "([BI)B"), (126, .methodref 42 178), (0, .nameAndType 45 179), (0, u "([CII)[B"), (395, .class_ 576), (0, u "java/lang/CharSequence"), (22, u "CASE_INSENSITIVE_ORDER"), (0, u "Ljava/util/Comparator;"), (409, u "([C)V"), (90, u "serialPersistentFields"), (0, u "[Ljava/io/ObjectStreamField;"), (0, .class_ 1104), (0, u "java/lang/String$CaseInsensitiveComparator"), (1, .class_ 1107), (0, u "java/io/Serializable"), (0, .class_ 1109), (0, u "java/lang/Comparable"), (0, .class_ 1111), (0, u "java/lang/constant/Constable"), (0, .class_ 1113), (0, u "java/lang/constant/ConstantDesc"), (2, u "serialVersionUID"), (0, u "J"), (3, u "REPL"), (0, u "C"), (2, u "LATIN1"), (1, u "UTF16")] 323

def k7m0 : Method := { name := "<init>", desc := "()V", sig := { parameters := [], returnType := none }, accessFlags := 1, code := none }
def k7c1 : Code := { maxStack := 5, maxLocals := 2, code := jdk_42_method_3_code, exceptionTable := #[], attributes := #[] }
def k7m1 : Method := { name := "<init>", desc := "([C)V", sig := { parameters := [(.array .char)], returnType := none }, accessFlags := 1, code := some k7c1 }
def k7c2 : Code := { maxStack := 4, maxLocals := 6, code := jdk_42_method_149_code, exceptionTable := #[], attributes := #[] }
def k7m2 : Method := { name := "<init>", desc := "([CIILjava/lang/Void;)V", sig := { parameters := [(.array .char), .int, .int, (.object "java/lang/Void")], returnType := none }, accessFlags := 2, code := some k7c2 }
/-- java/lang/String -/
def k7 : Class := { plain "java/lang/String" (some 0) with
  accessFlags := 49
  interfaces := #[2, 3, 4, 5, 6]
  cf := some (fileOf pool7 10 #[.nestMembers #[1103]] #[{ accessFlags := 1, nameIndex := 5, descriptorIndex := 6, attributes := #[] }, { accessFlags := 1, nameIndex := 5, descriptorIndex := 1010, attributes := #[] }, { accessFlags := 2, nameIndex := 5, descriptorIndex := 29, attributes := #[] }] 49 2 #[1106, 1108, 575, 1110, 1112] #[{ accessFlags := 18, nameIndex := 13, descriptorIndex := 14, attributes := #[] }, { accessFlags := 18, nameIndex := 17, descriptorIndex := 18, attributes := #[] }, { accessFlags := 2, nameIndex := 21, descriptorIndex := 22, attributes := #[] }, { accessFlags := 2, nameIndex := 25, descriptorIndex := 26, attributes := #[] }, { accessFlags := 26, nameIndex := 1116, descriptorIndex := 1117, attributes := #[] }, { accessFlags := 24, nameIndex := 40, descriptorIndex := 26, attributes := #[] }, { accessFlags := 26, nameIndex := 1101, descriptorIndex := 1102, attributes := #[] }, { accessFlags := 26, nameIndex := 1121, descriptorIndex := 1122, attributes := #[] }, { accessFlags := 25, nameIndex := 599, descriptorIndex := 600, attributes := #[] }, { accessFlags := 24, nameIndex := 1125, descriptorIndex := 18, attributes := #[] }, { accessFlags := 24, nameIndex := 1127, descriptorIndex := 18, attributes := #[] }])
  fields := #[{ name := "value", type := (.array .byte), accessFlags := 18, slot := 0, constantValue := 0 }, { name := "coder", type := .byte, accessFlags := 18, slot := 1, constantValue := 0 }, { name := "hash", type := .int, accessFlags := 2, slot := 2, constantValue := 0 }, { name := "hashIsZero", type := .boolean, accessFlags := 2, slot := 3, constantValue := 0 }, { name := "serialVersionUID", type := .long, accessFlags := 26, slot := 0, constantValue := 0 }, { name := "COMPACT_STRINGS", type := .boolean, accessFlags := 24, slot := 1, constantValue := 0 }, { name := "serialPersistentFields", type := (.array (.object "java/io/ObjectStreamField")), accessFlags := 26, slot := 2, constantValue := 0 }, { name := "REPL", type := .char, accessFlags := 26, slot := 3, constantValue := 0 }, { name := "CASE_INSENSITIVE_ORDER", type := (.object "java/util/Comparator"), accessFlags := 25, slot := 4, constantValue := 0 }, { name := "LATIN1", type := .byte, accessFlags := 24, slot := 5, constantValue := 0 }, { name := "UTF16", type := .byte, accessFlags := 24, slot := 6, constantValue := 0 }]
  methods := #[k7m0, k7m1, k7m2]
  instanceTypes := #[(.array .byte), .byte, .int, .boolean]
  staticTypes := #[.long, .boolean, (.array (.object "java/io/ObjectStreamField")), .char, (.object "java/util/Comparator"), .byte, .byte]
  resolved := Array.replicate 1451 none
  statics := some 0 }

def pool8 : Array CpInfo := pool [(6, .class_ 8), (1, u "java/lang/Object"), (0, u "<init>"), (0, u "()V"), (1, .class_ 14), (1, u "java/lang/StringUTF16"), (31, u "$assertionsDisabled"), (0, u "Z"), (13, u "HI_BYTE_SHIFT"), (0, u "I"), (2, u "LO_BYTE_SHIFT"), (49, .methodref 12 116), (0, .nameAndType 117 118), (0, u "compress"), (0, u "([CI[BII)I"), (3, u "([CII)[B"), (138, u "coderFromArrayLen"), (0, u "([BI)B"), (106, .class_ 371), (1, u "java/lang/StringUTF16$LinesSpliterator"), (58, u "MAX_LENGTH"), (196, .class_ 628), (0, u "java/lang/StringUTF16$CodePointsSpliterator"), (0, .class_ 630), (0, u "java/lang/StringUTF16$CharsSpliterator")] 4

def k8m0 : Method := { name := "<init>", desc := "()V", sig := { parameters := [], returnType := none }, accessFlags := 0, code := none }
def k8c1 : Code := { maxStack := 2, maxLocals := 2, code := jdk_52_method_15_code, exceptionTable := #[], attributes := #[] }
def k8m1 : Method := { name := "coderFromArrayLen", desc := "([BI)B", sig := { parameters := [(.array .byte), .int], returnType := some .byte }, accessFlags := 8, code := some k8c1 }
def k8c2 : Code := { maxStack := 5, maxLocals := 6, code := jdk_52_method_16_code, exceptionTable := #[], attributes := #[] }
def k8m2 : Method := { name := "compress", desc := "([CII)[B", sig := { parameters := [(.array .char), .int, .int], returnType := some (.array .byte) }, accessFlags := 9, code := some k8c2 }
def k8c3 : Code := { maxStack := 3, maxLocals := 7, code := jdk_52_method_21_code, exceptionTable := #[], attributes := #[] }
def k8m3 : Method := { name := "compress", desc := "([CI[BII)I", sig := { parameters := [(.array .char), .int, (.array .byte), .int, .int], returnType := some .int }, accessFlags := 9, code := some k8c3 }
/-- java/lang/StringUTF16 -/
def k8 : Class := { plain "java/lang/StringUTF16" (some 0) with
  accessFlags := 48
  interfaces := #[]
  cf := some (fileOf pool8 12 #[.nestMembers #[627, 629, 369]] #[{ accessFlags := 0, nameIndex := 9, descriptorIndex := 10, attributes := #[] }, { accessFlags := 8, nameIndex := 261, descriptorIndex := 262, attributes := #[] }, { accessFlags := 9, nameIndex := 117, descriptorIndex := 122, attributes := #[] }, { accessFlags := 9, nameIndex := 117, descriptorIndex := 118, attributes := #[] }] 48 6 #[] #[{ accessFlags := 26, nameIndex := 61, descriptorIndex := 62, attributes := #[] }, { accessFlags := 26, nameIndex := 65, descriptorIndex := 62, attributes := #[] }, { accessFlags := 24, nameIndex := 430, descriptorIndex := 62, attributes := #[] }, { accessFlags := 4120, nameIndex := 46, descriptorIndex := 47, attributes := #[] }])
  fields := #[{ name := "HI_BYTE_SHIFT", type := .int, accessFlags := 26, slot := 0, constantValue := 0 }, { name := "LO_BYTE_SHIFT", type := .int, accessFlags := 26, slot := 1, constantValue := 0 }, { name := "MAX_LENGTH", type := .int, accessFlags := 24, slot := 2, constantValue := 0 }, { name := "$assertionsDisabled", type := .boolean, accessFlags := 4120, slot := 3, constantValue := 0 }]
  methods := #[k8m0, k8m1, k8m2, k8m3]
  instanceTypes := #[]
  staticTypes := #[.int, .int, .int, .boolean]
  resolved := Array.replicate 635 none
  statics := none }

def pool9 : Array CpInfo := pool [(1, .methodref 2 3), (0, .class_ 4), (0, .nameAndType 5 6), (0, u "java/lang/Object"), (0, u "<init>"), (0, u "()V"), (0, .string 8), (0, u "destination"), (0, .methodref 10 11), (0, .class_ 12), (0, .nameAndType 13 14), (0, u "java/util/Objects"), (0, u "requireNonNull"), (0, u "(Ljava/lang/Object;Ljava/lang/String;)Ljava/lang/Object;"), (0, .class_ 16), (0, u "java/lang/String"), (0, .fieldref 18 19), (0, .class_ 20), (0, .nameAndType 8 21), (0, u "com/example/ikat/ikat/core/LinkEdit"), (0, u "Ljava/lang/String;"), (0, .methodref 23 24), (0, .class_ 25), (0, .nameAndType 26 27), (0, u "java/lang/Boolean"), (0, u "valueOf"), (0, u "(Z)Ljava/lang/Boolean;"), (0, .fieldref 18 29), (0, .nameAndType 30 31), (0, u "paused"), (0, u "Ljava/lang/Boolean;"), (0, .fieldref 18 33), (0, .nameAndType 34 35), (0, u "changesExpiry"), (0, u "Z"), (0, .fieldref 18 37), (0, .nameAndType 38 39), (0, u "expiresAt"), (0, u "Ljava/time/Instant;"), (0, .fieldref 18 41), (0, .nameAndType 42 35), (0, u "changesMaxVisits"), (0, .fieldref 18 44), (0, .nameAndType 45 46), (0, u "maxVisits"), (0, u "Ljava/lang/Integer;"), (2, u "(Ljava/lang/String;)Lcom/example/ikat/ikat/core/LinkEdit;"), (0, u "(Z)Lcom/example/ikat/ikat/core/LinkEdit;"), (2, u "()Ljava/lang/String;"), (0, u "()Ljava/lang/Boolean;"), (0, u "()Z"), (0, u "()Ljava/time/Instant;"), (0, u "()Ljava/lang/Integer;")] 2

def k9c0 : Code := { maxStack := 1, maxLocals := 1, code := prog_5_method_1_code, exceptionTable := #[], attributes := #[] }
def k9m0 : Method := { name := "<init>", desc := "()V", sig := { parameters := [], returnType := none }, accessFlags := 1, code := some k9c0 }
def k9c1 : Code := { maxStack := 3, maxLocals := 2, code := prog_5_method_2_code, exceptionTable := #[], attributes := #[] }
def k9m1 : Method := { name := "destination", desc := "(Ljava/lang/String;)Lcom/example/ikat/ikat/core/LinkEdit;", sig := { parameters := [(.object "java/lang/String")], returnType := some (.object "com/example/ikat/ikat/core/LinkEdit") }, accessFlags := 1, code := some k9c1 }
def k9c2 : Code := { maxStack := 2, maxLocals := 2, code := prog_5_method_3_code, exceptionTable := #[], attributes := #[] }
def k9m2 : Method := { name := "paused", desc := "(Z)Lcom/example/ikat/ikat/core/LinkEdit;", sig := { parameters := [.boolean], returnType := some (.object "com/example/ikat/ikat/core/LinkEdit") }, accessFlags := 1, code := some k9c2 }
def k9c3 : Code := { maxStack := 1, maxLocals := 1, code := prog_5_method_6_code, exceptionTable := #[], attributes := #[] }
def k9m3 : Method := { name := "destination", desc := "()Ljava/lang/String;", sig := { parameters := [], returnType := some (.object "java/lang/String") }, accessFlags := 0, code := some k9c3 }
def k9c4 : Code := { maxStack := 1, maxLocals := 1, code := prog_5_method_7_code, exceptionTable := #[], attributes := #[] }
def k9m4 : Method := { name := "paused", desc := "()Ljava/lang/Boolean;", sig := { parameters := [], returnType := some (.object "java/lang/Boolean") }, accessFlags := 0, code := some k9c4 }
def k9c5 : Code := { maxStack := 1, maxLocals := 1, code := prog_5_method_8_code, exceptionTable := #[], attributes := #[] }
def k9m5 : Method := { name := "changesExpiry", desc := "()Z", sig := { parameters := [], returnType := some .boolean }, accessFlags := 0, code := some k9c5 }
def k9c6 : Code := { maxStack := 1, maxLocals := 1, code := prog_5_method_9_code, exceptionTable := #[], attributes := #[] }
def k9m6 : Method := { name := "expiresAt", desc := "()Ljava/time/Instant;", sig := { parameters := [], returnType := some (.object "java/time/Instant") }, accessFlags := 0, code := some k9c6 }
def k9c7 : Code := { maxStack := 1, maxLocals := 1, code := prog_5_method_10_code, exceptionTable := #[], attributes := #[] }
def k9m7 : Method := { name := "changesMaxVisits", desc := "()Z", sig := { parameters := [], returnType := some .boolean }, accessFlags := 0, code := some k9c7 }
def k9c8 : Code := { maxStack := 1, maxLocals := 1, code := prog_5_method_11_code, exceptionTable := #[], attributes := #[] }
def k9m8 : Method := { name := "maxVisits", desc := "()Ljava/lang/Integer;", sig := { parameters := [], returnType := some (.object "java/lang/Integer") }, accessFlags := 0, code := some k9c8 }
/-- com/example/ikat/ikat/core/LinkEdit -/
def k9 : Class := { plain "com/example/ikat/ikat/core/LinkEdit" (some 0) with
  accessFlags := 33
  interfaces := #[]
  cf := some (fileOf pool9 18 #[] #[{ accessFlags := 1, nameIndex := 5, descriptorIndex := 6, attributes := #[] }, { accessFlags := 1, nameIndex := 8, descriptorIndex := 49, attributes := #[] }, { accessFlags := 1, nameIndex := 30, descriptorIndex := 50, attributes := #[] }, { accessFlags := 0, nameIndex := 8, descriptorIndex := 53, attributes := #[] }, { accessFlags := 0, nameIndex := 30, descriptorIndex := 54, attributes := #[] }, { accessFlags := 0, nameIndex := 34, descriptorIndex := 55, attributes := #[] }, { accessFlags := 0, nameIndex := 38, descriptorIndex := 56, attributes := #[] }, { accessFlags := 0, nameIndex := 42, descriptorIndex := 55, attributes := #[] }, { accessFlags := 0, nameIndex := 45, descriptorIndex := 57, attributes := #[] }] 33 2 #[] #[{ accessFlags := 2, nameIndex := 8, descriptorIndex := 21, attributes := #[] }, { accessFlags := 2, nameIndex := 30, descriptorIndex := 31, attributes := #[] }, { accessFlags := 2, nameIndex := 34, descriptorIndex := 35, attributes := #[] }, { accessFlags := 2, nameIndex := 38, descriptorIndex := 39, attributes := #[] }, { accessFlags := 2, nameIndex := 42, descriptorIndex := 35, attributes := #[] }, { accessFlags := 2, nameIndex := 45, descriptorIndex := 46, attributes := #[] }])
  fields := #[{ name := "destination", type := (.object "java/lang/String"), accessFlags := 2, slot := 0, constantValue := 0 }, { name := "paused", type := (.object "java/lang/Boolean"), accessFlags := 2, slot := 1, constantValue := 0 }, { name := "changesExpiry", type := .boolean, accessFlags := 2, slot := 2, constantValue := 0 }, { name := "expiresAt", type := (.object "java/time/Instant"), accessFlags := 2, slot := 3, constantValue := 0 }, { name := "changesMaxVisits", type := .boolean, accessFlags := 2, slot := 4, constantValue := 0 }, { name := "maxVisits", type := (.object "java/lang/Integer"), accessFlags := 2, slot := 5, constantValue := 0 }]
  methods := #[k9m0, k9m1, k9m2, k9m3, k9m4, k9m5, k9m6, k9m7, k9m8]
  instanceTypes := #[(.object "java/lang/String"), (.object "java/lang/Boolean"), .boolean, (.object "java/time/Instant"), .boolean, (.object "java/lang/Integer")]
  staticTypes := #[]
  resolved := Array.replicate 60 none
  statics := none }

def pool10 : Array CpInfo := pool [(2, .class_ 4), (1, u "java/lang/Object"), (2, .fieldref 8 9), (0, .class_ 10), (0, .nameAndType 11 12), (0, u "java/lang/Boolean"), (0, u "value"), (0, u "Z"), (14, .fieldref 8 28), (0, .nameAndType 29 30), (0, u "TRUE"), (0, u "Ljava/lang/Boolean;"), (0, .fieldref 8 32), (0, .nameAndType 33 30), (0, u "FALSE"), (2, u "valueOf"), (7, u "booleanValue"), (0, u "()Z"), (41, u "TYPE"), (0, u "Ljava/lang/Class;"), (0, .class_ 90), (0, u "java/io/Serializable"), (0, .class_ 92), (0, u "java/lang/Comparable"), (0, .class_ 94), (0, u "java/lang/constant/Constable"), (2, u "serialVersionUID"), (0, u "J"), (18, u "(Z)Ljava/lang/Boolean;")] 34

def k10c0 : Code := { maxStack := 1, maxLocals := 1, code := jdk_2055_method_4_code, exceptionTable := #[], attributes := #[] }
def k10m0 : Method := { name := "booleanValue", desc := "()Z", sig := { parameters := [], returnType := some .boolean }, accessFlags := 1, code := some k10c0 }
def k10c1 : Code := { maxStack := 1, maxLocals := 1, code := jdk_2055_method_5_code, exceptionTable := #[], attributes := #[] }
def k10m1 : Method := { name := "valueOf", desc := "(Z)Ljava/lang/Boolean;", sig := { parameters := [.boolean], returnType := some (.object "java/lang/Boolean") }, accessFlags := 9, code := some k10c1 }
/-- java/lang/Boolean -/
def k10 : Class := { plain "java/lang/Boolean" (some 0) with
  accessFlags := 49
  interfaces := #[2, 3, 5]
  cf := some (fileOf pool10 8 #[] #[{ accessFlags := 1, nameIndex := 44, descriptorIndex := 45, attributes := #[] }, { accessFlags := 9, nameIndex := 36, descriptorIndex := 117, attributes := #[] }] 49 2 #[89, 91, 93] #[{ accessFlags := 25, nameIndex := 29, descriptorIndex := 30, attributes := #[] }, { accessFlags := 25, nameIndex := 33, descriptorIndex := 30, attributes := #[] }, { accessFlags := 25, nameIndex := 87, descriptorIndex := 88, attributes := #[] }, { accessFlags := 18, nameIndex := 11, descriptorIndex := 12, attributes := #[] }, { accessFlags := 26, nameIndex := 97, descriptorIndex := 98, attributes := #[] }])
  fields := #[{ name := "TRUE", type := (.object "java/lang/Boolean"), accessFlags := 25, slot := 0, constantValue := 0 }, { name := "FALSE", type := (.object "java/lang/Boolean"), accessFlags := 25, slot := 1, constantValue := 0 }, { name := "TYPE", type := (.object "java/lang/Class"), accessFlags := 25, slot := 2, constantValue := 0 }, { name := "value", type := .boolean, accessFlags := 18, slot := 0, constantValue := 0 }, { name := "serialVersionUID", type := .long, accessFlags := 26, slot := 3, constantValue := 0 }]
  methods := #[k10m0, k10m1]
  instanceTypes := #[.boolean]
  staticTypes := #[(.object "java/lang/Boolean"), (.object "java/lang/Boolean"), (.object "java/lang/Class"), .long]
  resolved := Array.replicate 152 none
  statics := some 1 }

def pool11 : Array CpInfo := pool [(2, .class_ 4), (1, u "java/lang/Object"), (0, u "<init>"), (0, u "()V"), (35, .class_ 44), (1, u "java/util/Objects"), (0, u "requireNonNull"), (48, u "(Ljava/lang/Object;Ljava/lang/String;)Ljava/lang/Object;")] 89

def k11m0 : Method := { name := "<init>", desc := "()V", sig := { parameters := [], returnType := none }, accessFlags := 2, code := none }
def k11c1 : Code := { maxStack := 3, maxLocals := 2, code := jdk_31_method_11_code, exceptionTable := #[], attributes := #[] }
def k11m1 : Method := { name := "requireNonNull", desc := "(Ljava/lang/Object;Ljava/lang/String;)Ljava/lang/Object;", sig := { parameters := [(.object "java/lang/Object"), (.object "java/lang/String")], returnType := some (.object "java/lang/Object") }, accessFlags := 9, code := some k11c1 }
/-- java/util/Objects -/
def k11 : Class := { plain "java/util/Objects" (some 0) with
  accessFlags := 49
  interfaces := #[]
  cf := some (fileOf pool11 42 #[] #[{ accessFlags := 2, nameIndex := 5, descriptorIndex := 6, attributes := #[] }, { accessFlags := 9, nameIndex := 45, descriptorIndex := 94, attributes := #[] }] 49 2 #[] #[])
  fields := #[]
  methods := #[k11m0, k11m1]
  instanceTypes := #[]
  staticTypes := #[]
  resolved := Array.replicate 184 none
  statics := none }

def pool12 : Array CpInfo := pool [(4, .class_ 6), (1, u "java/lang/Object"), (0, u "<init>"), (0, u "()V"), (5, .class_ 16), (1, u "java/lang/StringLatin1"), (104, u "$assertionsDisabled"), (0, u "Z"), (98, .class_ 223), (1, u "java/lang/StringLatin1$LinesSpliterator"), (166, .class_ 391), (0, u "java/lang/StringLatin1$CharsSpliterator")] 3

def k12m0 : Method := { name := "<init>", desc := "()V", sig := { parameters := [], returnType := none }, accessFlags := 0, code := none }
/-- java/lang/StringLatin1 -/
def k12 : Class := { plain "java/lang/StringLatin1" (some 0) with
  accessFlags := 48
  interfaces := #[]
  cf := some (fileOf pool12 14 #[.nestMembers #[390, 221]] #[{ accessFlags := 0, nameIndex := 7, descriptorIndex := 8, attributes := #[] }] 48 4 #[] #[{ accessFlags := 4120, nameIndex := 121, descriptorIndex := 122, attributes := #[] }])
  fields := #[{ name := "$assertionsDisabled", type := .boolean, accessFlags := 4120, slot := 0, constantValue := 0 }]
  methods := #[k12m0]
  instanceTypes := #[]
  staticTypes := #[.boolean]
  resolved := Array.replicate 395 none
  statics := none }

def pool13 : Array CpInfo := pool [(2, .class_ 4), (1, u "java/lang/Object"), (0, u "<init>"), (0, u "()V"), (17, .class_ 26), (1, u "jdk/internal/util/Preconditions"), (28, .class_ 56), (0, u "jdk/internal/util/Preconditions$4"), (57, .class_ 115), (0, u "jdk/internal/util/Preconditions$1"), (7, u "SIOOBE_FORMATTER"), (0, u "Ljava/util/function/BiFunction;"), (0, .class_ 126), (0, u "jdk/internal/util/Preconditions$2"), (3, u "AIOOBE_FORMATTER"), (0, .class_ 132), (0, u "jdk/internal/util/Preconditions$3"), (3, u "IOOBE_FORMATTER")] 57

def k13m0 : Method := { name := "<init>", desc := "()V", sig := { parameters := [], returnType := none }, accessFlags := 1, code := none }
/-- jdk/internal/util/Preconditions -/
def k13 : Class := { plain "jdk/internal/util/Preconditions" (some 0) with
  accessFlags := 33
  interfaces := #[]
  cf := some (fileOf pool13 24 #[.nestMembers #[55, 131, 125, 114]] #[{ accessFlags := 1, nameIndex := 5, descriptorIndex := 6, attributes := #[] }] 33 2 #[] #[{ accessFlags := 25, nameIndex := 123, descriptorIndex := 124, attributes := #[] }, { accessFlags := 25, nameIndex := 130, descriptorIndex := 124, attributes := #[] }, { accessFlags := 25, nameIndex := 136, descriptorIndex := 124, attributes := #[] }])
  fields := #[{ name := "SIOOBE_FORMATTER", type := (.object "java/util/function/BiFunction"), accessFlags := 25, slot := 0, constantValue := 0 }, { name := "AIOOBE_FORMATTER", type := (.object "java/util/function/BiFunction"), accessFlags := 25, slot := 1, constantValue := 0 }, { name := "IOOBE_FORMATTER", type := (.object "java/util/function/BiFunction"), accessFlags := 25, slot := 2, constantValue := 0 }]
  methods := #[k13m0]
  instanceTypes := #[]
  staticTypes := #[(.object "java/util/function/BiFunction"), (.object "java/util/function/BiFunction"), (.object "java/util/function/BiFunction")]
  resolved := Array.replicate 194 none
  statics := some 2 }

def pool14 : Array CpInfo := pool [(9, u "<init>"), (6, .class_ 18), (1, u "java/lang/Object"), (0, u "()V"), (1, .class_ 23), (1, u "jdk/internal/util/ArraysSupport"), (0, u "LOG2_ARRAY_LONG_INDEX_SCALE"), (0, u "I"), (2, u "U"), (0, u "Ljdk/internal/misc/Unsafe;"), (8, u "BIG_ENDIAN"), (0, u "Z"), (8, u "LOG2_BYTE_BIT_SIZE"), (4, u "LOG2_ARRAY_INT_INDEX_SCALE"), (54, u "JLA"), (0, u "Ljdk/internal/access/JavaLangAccess;"), (11, u "LOG2_ARRAY_BOOLEAN_INDEX_SCALE"), (9, u "LOG2_ARRAY_BYTE_INDEX_SCALE"), (5, u "LOG2_ARRAY_CHAR_INDEX_SCALE"), (5, u "LOG2_ARRAY_SHORT_INDEX_SCALE"), (18, u "LOG2_ARRAY_FLOAT_INDEX_SCALE"), (24, u "LOG2_ARRAY_DOUBLE_INDEX_SCALE"), (89, u "T_BOOLEAN"), (2, u "T_CHAR"), (1, u "T_FLOAT"), (1, u "T_DOUBLE"), (1, u "T_BYTE"), (1, u "T_SHORT"), (1, u "T_INT"), (1, u "T_LONG"), (1, u "SOFT_MAX_ARRAY_LENGTH")] 83

def k14m0 : Method := { name := "<init>", desc := "()V", sig := { parameters := [], returnType := none }, accessFlags := 2, code := none }
/-- jdk/internal/util/ArraysSupport -/
def k14 : Class := { plain "jdk/internal/util/ArraysSupport" (some 0) with
  accessFlags := 33
  interfaces := #[]
  cf := some (fileOf pool14 21 #[] #[{ accessFlags := 2, nameIndex := 9, descriptorIndex := 19, attributes := #[] }] 33 16 #[] #[{ accessFlags := 24, nameIndex := 28, descriptorIndex := 29, attributes := #[] }, { accessFlags := 26, nameIndex := 38, descriptorIndex := 39, attributes := #[] }, { accessFlags := 25, nameIndex := 121, descriptorIndex := 25, attributes := #[] }, { accessFlags := 25, nameIndex := 131, descriptorIndex := 25, attributes := #[] }, { accessFlags := 25, nameIndex := 137, descriptorIndex := 25, attributes := #[] }, { accessFlags := 25, nameIndex := 143, descriptorIndex := 25, attributes := #[] }, { accessFlags := 25, nameIndex := 53, descriptorIndex := 25, attributes := #[] }, { accessFlags := 25, nameIndex := 24, descriptorIndex := 25, attributes := #[] }, { accessFlags := 25, nameIndex := 162, descriptorIndex := 25, attributes := #[] }, { accessFlags := 25, nameIndex := 187, descriptorIndex := 25, attributes := #[] }, { accessFlags := 26, nameIndex := 48, descriptorIndex := 25, attributes := #[] }, { accessFlags := 25, nameIndex := 277, descriptorIndex := 25, attributes := #[] }, { accessFlags := 25, nameIndex := 280, descriptorIndex := 25, attributes := #[] }, { accessFlags := 25, nameIndex := 282, descriptorIndex := 25, attributes := #[] }, { accessFlags := 25, nameIndex := 284, descriptorIndex := 25, attributes := #[] }, { accessFlags := 25, nameIndex := 286, descriptorIndex := 25, attributes := #[] }, { accessFlags := 25, nameIndex := 288, descriptorIndex := 25, attributes := #[] }, { accessFlags := 25, nameIndex := 290, descriptorIndex := 25, attributes := #[] }, { accessFlags := 25, nameIndex := 292, descriptorIndex := 25, attributes := #[] }, { accessFlags := 26, nameIndex := 108, descriptorIndex := 109, attributes := #[] }, { accessFlags := 25, nameIndex := 294, descriptorIndex := 25, attributes := #[] }])
  fields := #[{ name := "U", type := (.object "jdk/internal/misc/Unsafe"), accessFlags := 24, slot := 0, constantValue := 0 }, { name := "BIG_ENDIAN", type := .boolean, accessFlags := 26, slot := 1, constantValue := 0 }, { name := "LOG2_ARRAY_BOOLEAN_INDEX_SCALE", type := .int, accessFlags := 25, slot := 2, constantValue := 0 }, { name := "LOG2_ARRAY_BYTE_INDEX_SCALE", type := .int, accessFlags := 25, slot := 3, constantValue := 0 }, { name := "LOG2_ARRAY_CHAR_INDEX_SCALE", type := .int, accessFlags := 25, slot := 4, constantValue := 0 }, { name := "LOG2_ARRAY_SHORT_INDEX_SCALE", type := .int, accessFlags := 25, slot := 5, constantValue := 0 }, { name := "LOG2_ARRAY_INT_INDEX_SCALE", type := .int, accessFlags := 25, slot := 6, constantValue := 0 }, { name := "LOG2_ARRAY_LONG_INDEX_SCALE", type := .int, accessFlags := 25, slot := 7, constantValue := 0 }, { name := "LOG2_ARRAY_FLOAT_INDEX_SCALE", type := .int, accessFlags := 25, slot := 8, constantValue := 0 }, { name := "LOG2_ARRAY_DOUBLE_INDEX_SCALE", type := .int, accessFlags := 25, slot := 9, constantValue := 0 }, { name := "LOG2_BYTE_BIT_SIZE", type := .int, accessFlags := 26, slot := 10, constantValue := 0 }, { name := "T_BOOLEAN", type := .int, accessFlags := 25, slot := 11, constantValue := 0 }, { name := "T_CHAR", type := .int, accessFlags := 25, slot := 12, constantValue := 0 }, { name := "T_FLOAT", type := .int, accessFlags := 25, slot := 13, constantValue := 0 }, { name := "T_DOUBLE", type := .int, accessFlags := 25, slot := 14, constantValue := 0 }, { name := "T_BYTE", type := .int, accessFlags := 25, slot := 15, constantValue := 0 }, { name := "T_SHORT", type := .int, accessFlags := 25, slot := 16, constantValue := 0 }, { name := "T_INT", type := .int, accessFlags := 25, slot := 17, constantValue := 0 }, { name := "T_LONG", type := .int, accessFlags := 25, slot := 18, constantValue := 0 }, { name := "JLA", type := (.object "jdk/internal/access/JavaLangAccess"), accessFlags := 26, slot := 19, constantValue := 0 }, { name := "SOFT_MAX_ARRAY_LENGTH", type := .int, accessFlags := 25, slot := 20, constantValue := 0 }]
  methods := #[k14m0]
  instanceTypes := #[]
  staticTypes := #[(.object "jdk/internal/misc/Unsafe"), .boolean, .int, .int, .int, .int, .int, .int, .int, .int, .int, .int, .int, .int, .int, .int, .int, .int, .int, (.object "jdk/internal/access/JavaLangAccess"), .int]
  resolved := Array.replicate 378 none
  statics := none }

def pool15 : Array CpInfo := pool [(1, u "java/lang/Cloneable"), (0, .class_ 1), (0, u "java/lang/Object"), (0, .class_ 3)] 3

/-- java/lang/Cloneable -/
def k15 : Class := { plain "java/lang/Cloneable" (some 0) with
  accessFlags := 1537
  interfaces := #[]
  cf := some (fileOf pool15 2 #[] #[] 1537 4 #[] #[])
  fields := #[]
  methods := #[]
  instanceTypes := #[]
  staticTypes := #[]
  resolved := Array.replicate 8 none
  statics := none }

/-- the primitive byte -/
def k16 : Class := { plain "byte" none with kind := .primitive 'B', accessFlags := 0x411 }
/-- [B -/
def k17 : Class := { plain "[B" (some 0) with kind := .array 16 .byte, interfaces := #[15, 2], accessFlags := 1041 }

/-- the primitive char -/
def k18 : Class := { plain "char" none with kind := .primitive 'C', accessFlags := 0x411 }
/-- [C -/
def k19 : Class := { plain "[C" (some 0) with kind := .array 18 .char, interfaces := #[15, 2], accessFlags := 1041 }

/-- the primitive int -/
def k20 : Class := { plain "int" none with kind := .primitive 'I', accessFlags := 0x411 }
/-- [I -/
def k21 : Class := { plain "[I" (some 0) with kind := .array 20 .int, interfaces := #[15, 2], accessFlags := 1041 }

def heap : Heap := #[{ cls := 7, slots := #[.long 0, .int 1, .null, .int 0, .null, .int 0, .int 0], vm := .statics 7 },
  { cls := 10, slots := #[.ref 4, .ref 3, .null, .long 0], vm := .statics 10 },
  { cls := 13, slots := #[.null, .null, .null], vm := .statics 13 },
  { cls := 10, slots := #[.int 0], vm := .none },
  { cls := 10, slots := #[.int 1], vm := .none }]
def classes : Array Class := #[k0, k1, k2, k3, k4, k5, k6, k7, k8, k9, k10, k11, k12, k13, k14, k15, k16, k17, k18, k19, k20, k21]
def interned : List (Array UInt16 × Addr) := []
def slotsUsed : Nat := 16
def theMethod : MethodId := ⟨1, 2⟩
def args0 : Array Value := #[.int 5, .int 1, .int 2, .int 3]
def aboutOver (below : List Frame) : State where
  vm := { classes := classes, interned := interned.toArray }
  heap := heap
  slotsUsed := slotsUsed
  threads := #[{ frames := .invoking theMethod args0 :: below }]
def below0 : List Frame := [.native { method := ⟨0, 0⟩, args := #[] }]
def about1 : State := aboutOver below0
def p0 : Program := .bare "" "" ""
def e0 : Env := launch0.env 0 0 0
theorem w_frames : about1.frames = Frame.invoking theMethod args0 :: below0 := rfl
set_option maxRecDepth 65536 in
theorem w_args : argsFit about1.vm theMethod args0 = true := by decide +kernel
set_option maxRecDepth 65536 in
theorem w_heap : heapFits about1 = true := by decide +kernel
set_option maxRecDepth 65536 in
theorem w_runnable : about1.curStatus? = some .runnable := by decide +kernel
set_option maxRecDepth 65536 in
theorem w_alone : about1.alone = true := by decide +kernel
set_option maxRecDepth 65536 in
theorem w_named : about1.methodNamed? x = some theMethod := by decide +kernel
set_option maxRecDepth 65536 in
theorem w_hears : about1.hears theMethod below0 = true := by decide +kernel
set_option maxRecDepth 65536 in
theorem w_ripe : about1.ripe theMethod args0 below0 = true := by decide +kernel
theorem w_running : about1.status = .running := rfl
set_option maxRecDepth 65536 in
theorem w_room : about1.hasRoom e0.platform room_1 = true :=
  launch0.hasRoom_least _ room_1 (by decide +kernel) (by decide +kernel) (by decide +kernel) (by decide +kernel) (by decide +kernel) (by decide +kernel)
theorem allAtoms_all (ts : List Jvm.Cond) (a : Array Jvm.Value) (st : Jvm.State) : (allAtoms ts).before a st = ts.all (fun c => c.before a st) := by
  induction ts with
  | nil => rfl
  | cons c t ih =>
    show (Jvm.Cond.and c (allAtoms t)).before a st = _
    rw [Jvm.Cond.before_and, ih, List.all_cons]
def words1 : List Jvm.Cond := Jvm.Cond.code x code maxLocals ret :: tables_1
/-- a 'code' word, met by the world's own term for the bytes: nothing is compared byte by byte -/
theorem code_word {y : MethodName} {bytes : ByteArray} {mx : Nat} {rt : Option FieldType} {a : Array Value} {s : State} {m : MethodId} {meth : Method} {c : Code} (h1 : s.methodNamed? y = some m) (h2 : s.vm.method? m = some meth) (h3 : meth.code = some c) (h4 : c.code = bytes)
    (h5 : (c.maxLocals == mx && c.exceptionTable.isEmpty && decide (c.maxStack ≤ mostOperands) && decide (meth.sig.returnType = rt) && !meth.locks && decide (parseMethodDescriptor y.desc = some meth.sig)) = true) : (Jvm.Cond.code y bytes mx rt).before a s = true := by
  simp only [Bool.and_eq_true, beq_iff_eq, Bool.not_eq_true', decide_eq_true_eq] at h5
  obtain ⟨⟨⟨⟨⟨g1, g2⟩, g3⟩, g4⟩, g5⟩, g6⟩ := h5
  simp [Cond.before, Cond.holds, Cond.value, h1, h2, h3, h4, g1, g2, g3, g4, g5, g6]
def isCode : Jvm.Cond → Bool
  | .code _ _ _ _ => true
  | _ => false
theorem all_split {L : List Jvm.Cond} {P : Jvm.Cond → Bool} (h1 : L.all (fun c => isCode c || P c) = true) (h2 : ∀ c ∈ L.filter isCode, P c = true) : L.all P = true := by
  refine List.all_eq_true.mpr fun c hc => ?_
  have h := List.all_eq_true.mp h1 c hc
  rcases Bool.eq_false_or_eq_true (isCode c) with hi | hi
  · exact h2 c (List.mem_filter.mpr ⟨hc, hi⟩)
  · simpa [hi] using h
set_option maxRecDepth 65536 in
theorem w_c0 : (Jvm.Cond.code x code maxLocals ret).before args0 about1 = true := code_word (m := ⟨1, 2⟩) (meth := k1m2) (c := k1c2) (by decide +kernel) rfl rfl rfl (by decide +kernel)
set_option maxRecDepth 65536 in
theorem w_c1 : (Jvm.Cond.code ({ cls := "com/example/ikat/ikat/core/LinkEditDestinationPinLaw", name := "str", desc := "(II)Ljava/lang/String;" } : Jvm.MethodName) method_2_code (5 : Nat) (Option.some (Jvm.ClassFile.FieldType.object "java/lang/String"))).before args0 about1 = true := code_word (m := ⟨1, 1⟩) (meth := k1m1) (c := k1c1) (by decide +kernel) rfl rfl rfl (by decide +kernel)
set_option maxRecDepth 65536 in
theorem w_c2 : (Jvm.Cond.code ({ cls := "java/lang/String", name := "<init>", desc := "([C)V" } : Jvm.MethodName) jdk_42_method_3_code (2 : Nat) (Option.none : Option Jvm.ClassFile.FieldType)).before args0 about1 = true := code_word (m := ⟨7, 1⟩) (meth := k7m1) (c := k7c1) (by decide +kernel) rfl rfl rfl (by decide +kernel)
set_option maxRecDepth 65536 in
theorem w_c3 : (Jvm.Cond.code ({ cls := "java/lang/String", name := "<init>", desc := "([CIILjava/lang/Void;)V" } : Jvm.MethodName) jdk_42_method_149_code (6 : Nat) (Option.none : Option Jvm.ClassFile.FieldType)).before args0 about1 = true := code_word (m := ⟨7, 2⟩) (meth := k7m2) (c := k7c2) (by decide +kernel) rfl rfl rfl (by decide +kernel)
set_option maxRecDepth 65536 in
theorem w_c4 : (Jvm.Cond.code ({ cls := "java/lang/Object", name := "<init>", desc := "()V" } : Jvm.MethodName) object_method_1_code (1 : Nat) (Option.none : Option Jvm.ClassFile.FieldType)).before args0 about1 = true := code_word (m := ⟨0, 0⟩) (meth := k0m0) (c := k0c0) (by decide +kernel) rfl rfl rfl (by decide +kernel)
set_option maxRecDepth 65536 in
theorem w_c5 : (Jvm.Cond.code ({ cls := "java/lang/StringUTF16", name := "compress", desc := "([CII)[B" } : Jvm.MethodName) jdk_52_method_16_code (6 : Nat) (Option.some (Jvm.ClassFile.FieldType.array Jvm.ClassFile.FieldType.byte))).before args0 about1 = true := code_word (m := ⟨8, 2⟩) (meth := k8m2) (c := k8c2) (by decide +kernel) rfl rfl rfl (by decide +kernel)
set_option maxRecDepth 65536 in
theorem w_c6 : (Jvm.Cond.code ({ cls := "java/lang/StringUTF16", name := "compress", desc := "([CI[BII)I" } : Jvm.MethodName) jdk_52_method_21_code (7 : Nat) (Option.some Jvm.ClassFile.FieldType.int)).before args0 about1 = true := code_word (m := ⟨8, 3⟩) (meth := k8m3) (c := k8c3) (by decide +kernel) rfl rfl rfl (by decide +kernel)
set_option maxRecDepth 65536 in
theorem w_c7 : (Jvm.Cond.code ({ cls := "java/lang/StringUTF16", name := "coderFromArrayLen", desc := "([BI)B" } : Jvm.MethodName) jdk_52_method_15_code (2 : Nat) (Option.some Jvm.ClassFile.FieldType.byte)).before args0 about1 = true := code_word (m := ⟨8, 1⟩) (meth := k8m1) (c := k8c1) (by decide +kernel) rfl rfl rfl (by decide +kernel)
set_option maxRecDepth 65536 in
theorem w_c8 : (Jvm.Cond.code ({ cls := "com/example/ikat/ikat/core/LinkEdit", name := "<init>", desc := "()V" } : Jvm.MethodName) prog_5_method_1_code (1 : Nat) (Option.none : Option Jvm.ClassFile.FieldType)).before args0 about1 = true := code_word (m := ⟨9, 0⟩) (meth := k9m0) (c := k9c0) (by decide +kernel) rfl rfl rfl (by decide +kernel)
set_option maxRecDepth 65536 in
theorem w_c9 : (Jvm.Cond.code ({ cls := "com/example/ikat/ikat/core/LinkEdit", name := "paused", desc := "(Z)Lcom/example/ikat/ikat/core/LinkEdit;" } : Jvm.MethodName) prog_5_method_3_code (2 : Nat) (Option.some (Jvm.ClassFile.FieldType.object "com/example/ikat/ikat/core/LinkEdit"))).before args0 about1 = true := code_word (m := ⟨9, 2⟩) (meth := k9m2) (c := k9c2) (by decide +kernel) rfl rfl rfl (by decide +kernel)
set_option maxRecDepth 65536 in
theorem w_c10 : (Jvm.Cond.code ({ cls := "java/lang/Boolean", name := "valueOf", desc := "(Z)Ljava/lang/Boolean;" } : Jvm.MethodName) jdk_2055_method_5_code (1 : Nat) (Option.some (Jvm.ClassFile.FieldType.object "java/lang/Boolean"))).before args0 about1 = true := code_word (m := ⟨10, 1⟩) (meth := k10m1) (c := k10c1) (by decide +kernel) rfl rfl rfl (by decide +kernel)
set_option maxRecDepth 65536 in
theorem w_c11 : (Jvm.Cond.code ({ cls := "com/example/ikat/ikat/core/LinkEdit", name := "destination", desc := "(Ljava/lang/String;)Lcom/example/ikat/ikat/core/LinkEdit;" } : Jvm.MethodName) prog_5_method_2_code (2 : Nat) (Option.some (Jvm.ClassFile.FieldType.object "com/example/ikat/ikat/core/LinkEdit"))).before args0 about1 = true := code_word (m := ⟨9, 1⟩) (meth := k9m1) (c := k9c1) (by decide +kernel) rfl rfl rfl (by decide +kernel)
set_option maxRecDepth 65536 in
theorem w_c12 : (Jvm.Cond.code ({ cls := "java/util/Objects", name := "requireNonNull", desc := "(Ljava/lang/Object;Ljava/lang/String;)Ljava/lang/Object;" } : Jvm.MethodName) jdk_31_method_11_code (2 : Nat) (Option.some (Jvm.ClassFile.FieldType.object "java/lang/Object"))).before args0 about1 = true := code_word (m := ⟨11, 1⟩) (meth := k11m1) (c := k11c1) (by decide +kernel) rfl rfl rfl (by decide +kernel)
set_option maxRecDepth 65536 in
theorem w_c13 : (Jvm.Cond.code ({ cls := "com/example/ikat/ikat/core/LinkEdit", name := "destination", desc := "()Ljava/lang/String;" } : Jvm.MethodName) prog_5_method_6_code (1 : Nat) (Option.some (Jvm.ClassFile.FieldType.object "java/lang/String"))).before args0 about1 = true := code_word (m := ⟨9, 3⟩) (meth := k9m3) (c := k9c3) (by decide +kernel) rfl rfl rfl (by decide +kernel)
set_option maxRecDepth 65536 in
theorem w_c14 : (Jvm.Cond.code ({ cls := "com/example/ikat/ikat/core/LinkEdit", name := "paused", desc := "()Ljava/lang/Boolean;" } : Jvm.MethodName) prog_5_method_7_code (1 : Nat) (Option.some (Jvm.ClassFile.FieldType.object "java/lang/Boolean"))).before args0 about1 = true := code_word (m := ⟨9, 4⟩) (meth := k9m4) (c := k9c4) (by decide +kernel) rfl rfl rfl (by decide +kernel)
set_option maxRecDepth 65536 in
theorem w_c15 : (Jvm.Cond.code ({ cls := "java/lang/Boolean", name := "booleanValue", desc := "()Z" } : Jvm.MethodName) jdk_2055_method_4_code (1 : Nat) (Option.some Jvm.ClassFile.FieldType.boolean)).before args0 about1 = true := code_word (m := ⟨10, 0⟩) (meth := k10m0) (c := k10c0) (by decide +kernel) rfl rfl rfl (by decide +kernel)
set_option maxRecDepth 65536 in
theorem w_c16 : (Jvm.Cond.code ({ cls := "com/example/ikat/ikat/core/LinkEdit", name := "changesExpiry", desc := "()Z" } : Jvm.MethodName) prog_5_method_8_code (1 : Nat) (Option.some Jvm.ClassFile.FieldType.boolean)).before args0 about1 = true := code_word (m := ⟨9, 5⟩) (meth := k9m5) (c := k9c5) (by decide +kernel) rfl rfl rfl (by decide +kernel)
set_option maxRecDepth 65536 in
theorem w_c17 : (Jvm.Cond.code ({ cls := "com/example/ikat/ikat/core/LinkEdit", name := "expiresAt", desc := "()Ljava/time/Instant;" } : Jvm.MethodName) prog_5_method_9_code (1 : Nat) (Option.some (Jvm.ClassFile.FieldType.object "java/time/Instant"))).before args0 about1 = true := code_word (m := ⟨9, 6⟩) (meth := k9m6) (c := k9c6) (by decide +kernel) rfl rfl rfl (by decide +kernel)
set_option maxRecDepth 65536 in
theorem w_c18 : (Jvm.Cond.code ({ cls := "com/example/ikat/ikat/core/LinkEdit", name := "changesMaxVisits", desc := "()Z" } : Jvm.MethodName) prog_5_method_10_code (1 : Nat) (Option.some Jvm.ClassFile.FieldType.boolean)).before args0 about1 = true := code_word (m := ⟨9, 7⟩) (meth := k9m7) (c := k9c7) (by decide +kernel) rfl rfl rfl (by decide +kernel)
set_option maxRecDepth 65536 in
theorem w_c19 : (Jvm.Cond.code ({ cls := "com/example/ikat/ikat/core/LinkEdit", name := "maxVisits", desc := "()Ljava/lang/Integer;" } : Jvm.MethodName) prog_5_method_11_code (1 : Nat) (Option.some (Jvm.ClassFile.FieldType.object "java/lang/Integer"))).before args0 about1 = true := code_word (m := ⟨9, 8⟩) (meth := k9m8) (c := k9c8) (by decide +kernel) rfl rfl rfl (by decide +kernel)
def codes1 : List Jvm.Cond := [Jvm.Cond.code x code maxLocals ret, Jvm.Cond.code ({ cls := "com/example/ikat/ikat/core/LinkEditDestinationPinLaw", name := "str", desc := "(II)Ljava/lang/String;" } : Jvm.MethodName) method_2_code (5 : Nat) (Option.some (Jvm.ClassFile.FieldType.object "java/lang/String")), Jvm.Cond.code ({ cls := "java/lang/String", name := "<init>", desc := "([C)V" } : Jvm.MethodName) jdk_42_method_3_code (2 : Nat) (Option.none : Option Jvm.ClassFile.FieldType), Jvm.Cond.code ({ cls := "java/lang/String", name := "<init>", desc := "([CIILjava/lang/Void;)V" } : Jvm.MethodName) jdk_42_method_149_code (6 : Nat) (Option.none : Option Jvm.ClassFile.FieldType), Jvm.Cond.code ({ cls := "java/lang/Object", name := "<init>", desc := "()V" } : Jvm.MethodName) object_method_1_code (1 : Nat) (Option.none : Option Jvm.ClassFile.FieldType), Jvm.Cond.code ({ cls := "java/lang/StringUTF16", name := "compress", desc := "([CII)[B" } : Jvm.MethodName) jdk_52_method_16_code (6 : Nat) (Option.some (Jvm.ClassFile.FieldType.array Jvm.ClassFile.FieldType.byte)), Jvm.Cond.code ({ cls := "java/lang/StringUTF16", name := "compress", desc := "([CI[BII)I" } : Jvm.MethodName) jdk_52_method_21_code (7 : Nat) (Option.some Jvm.ClassFile.FieldType.int), Jvm.Cond.code ({ cls := "java/lang/StringUTF16", name := "coderFromArrayLen", desc := "([BI)B" } : Jvm.MethodName) jdk_52_method_15_code (2 : Nat) (Option.some Jvm.ClassFile.FieldType.byte), Jvm.Cond.code ({ cls := "com/example/ikat/ikat/core/LinkEdit", name := "<init>", desc := "()V" } : Jvm.MethodName) prog_5_method_1_code (1 : Nat) (Option.none : Option Jvm.ClassFile.FieldType), Jvm.Cond.code ({ cls := "com/example/ikat/ikat/core/LinkEdit", name := "paused", desc := "(Z)Lcom/example/ikat/ikat/core/LinkEdit;" } : Jvm.MethodName) prog_5_method_3_code (2 : Nat) (Option.some (Jvm.ClassFile.FieldType.object "com/example/ikat/ikat/core/LinkEdit")), Jvm.Cond.code ({ cls := "java/lang/Boolean", name := "valueOf", desc := "(Z)Ljava/lang/Boolean;" } : Jvm.MethodName) jdk_2055_method_5_code (1 : Nat) (Option.some (Jvm.ClassFile.FieldType.object "java/lang/Boolean")), Jvm.Cond.code ({ cls := "com/example/ikat/ikat/core/LinkEdit", name := "destination", desc := "(Ljava/lang/String;)Lcom/example/ikat/ikat/core/LinkEdit;" } : Jvm.MethodName) prog_5_method_2_code (2 : Nat) (Option.some (Jvm.ClassFile.FieldType.object "com/example/ikat/ikat/core/LinkEdit")), Jvm.Cond.code ({ cls := "java/util/Objects", name := "requireNonNull", desc := "(Ljava/lang/Object;Ljava/lang/String;)Ljava/lang/Object;" } : Jvm.MethodName) jdk_31_method_11_code (2 : Nat) (Option.some (Jvm.ClassFile.FieldType.object "java/lang/Object")), Jvm.Cond.code ({ cls := "com/example/ikat/ikat/core/LinkEdit", name := "destination", desc := "()Ljava/lang/String;" } : Jvm.MethodName) prog_5_method_6_code (1 : Nat) (Option.some (Jvm.ClassFile.FieldType.object "java/lang/String")), Jvm.Cond.code ({ cls := "com/example/ikat/ikat/core/LinkEdit", name := "paused", desc := "()Ljava/lang/Boolean;" } : Jvm.MethodName) prog_5_method_7_code (1 : Nat) (Option.some (Jvm.ClassFile.FieldType.object "java/lang/Boolean")), Jvm.Cond.code ({ cls := "java/lang/Boolean", name := "booleanValue", desc := "()Z" } : Jvm.MethodName) jdk_2055_method_4_code (1 : Nat) (Option.some Jvm.ClassFile.FieldType.boolean), Jvm.Cond.code ({ cls := "com/example/ikat/ikat/core/LinkEdit", name := "changesExpiry", desc := "()Z" } : Jvm.MethodName) prog_5_method_8_code (1 : Nat) (Option.some Jvm.ClassFile.FieldType.boolean), Jvm.Cond.code ({ cls := "com/example/ikat/ikat/core/LinkEdit", name := "expiresAt", desc := "()Ljava/time/Instant;" } : Jvm.MethodName) prog_5_method_9_code (1 : Nat) (Option.some (Jvm.ClassFile.FieldType.object "java/time/Instant")), Jvm.Cond.code ({ cls := "com/example/ikat/ikat/core/LinkEdit", name := "changesMaxVisits", desc := "()Z" } : Jvm.MethodName) prog_5_method_10_code (1 : Nat) (Option.some Jvm.ClassFile.FieldType.boolean), Jvm.Cond.code ({ cls := "com/example/ikat/ikat/core/LinkEdit", name := "maxVisits", desc := "()Ljava/lang/Integer;" } : Jvm.MethodName) prog_5_method_11_code (1 : Nat) (Option.some (Jvm.ClassFile.FieldType.object "java/lang/Integer"))]
set_option maxRecDepth 65536 in
theorem codes_eq : words1.filter isCode = codes1 := rfl
theorem w_codes : ∀ c ∈ words1.filter isCode, c.before args0 about1 = true := by
  rw [codes_eq]
  intro c hc
  simp only [codes1, List.mem_cons, List.not_mem_nil, or_false] at hc
  rcases hc with rfl | rfl | rfl | rfl | rfl | rfl | rfl | rfl | rfl | rfl | rfl | rfl | rfl | rfl | rfl | rfl | rfl | rfl | rfl | rfl
  · exact w_c0
  · exact w_c1
  · exact w_c2
  · exact w_c3
  · exact w_c4
  · exact w_c5
  · exact w_c6
  · exact w_c7
  · exact w_c8
  · exact w_c9
  · exact w_c10
  · exact w_c11
  · exact w_c12
  · exact w_c13
  · exact w_c14
  · exact w_c15
  · exact w_c16
  · exact w_c17
  · exact w_c18
  · exact w_c19
set_option maxRecDepth 65536 in
theorem w_t1 : (words1.take 24).all (fun c => isCode c || c.before args0 about1) = true := by decide +kernel
set_option maxRecDepth 65536 in
theorem w_t2 : ((words1.drop 24).take 24).all (fun c => isCode c || c.before args0 about1) = true := by decide +kernel
set_option maxRecDepth 65536 in
theorem w_t3 : (((words1.drop 24).drop 24).take 24).all (fun c => isCode c || c.before args0 about1) = true := by decide +kernel
set_option maxRecDepth 65536 in
theorem w_t4 : ((((words1.drop 24).drop 24).drop 24).take 24).all (fun c => isCode c || c.before args0 about1) = true := by decide +kernel
set_option maxRecDepth 65536 in
theorem w_t5 : ((((words1.drop 24).drop 24).drop 24).drop 24).all (fun c => isCode c || c.before args0 about1) = true := by decide +kernel
theorem w_tables : (allAtoms (Jvm.Cond.code x code maxLocals ret :: tables_1)).before args0 about1 = true := by
  rw [allAtoms_all]
  show words1.all (fun c => c.before args0 about1) = true
  refine all_split ?_ w_codes
  rw [← List.take_append_drop 24 words1, List.all_append, w_t1, ← List.take_append_drop 24 (words1.drop 24), List.all_append, w_t2, ← List.take_append_drop 24 ((words1.drop 24).drop 24), List.all_append, w_t3, ← List.take_append_drop 24 (((words1.drop 24).drop 24).drop 24), List.all_append, w_t4, w_t5]
  rfl
set_option maxRecDepth 65536 in
theorem w_rest : rest_1_c.before args0 about1 = true := by decide +kernel
set_option maxRecDepth 65536 in
theorem w_case : (Jvm.Cond.and given_1 narrow_1).before args0 about1 = true := by decide +kernel
set_option maxRecDepth 65536 in
theorem w_consts : constsHeld consts_1 about1 := Jvm.Lit.constsHeldB_iff.mp (by decide +kernel)
theorem w_applies : (headSpec (Jvm.Cond.code x code maxLocals ret :: tables_1) room_1).applies x e0.platform about1 = true :=
  (Spec.applies_iff w_frames).mpr ⟨w_running, w_runnable, w_alone, w_named, w_hears, w_ripe, w_room, w_tables⟩
theorem atStart : AtStart classFile x code maxLocals ret World_1 tables_1 room_1 Calls_1 rest_1 Pre_1 launch0 p0 e0 about1 theMethod args0 below0 :=
  ⟨lists_1, trivial, launch0.admits_env _ _ _, launch0.least_env, fairChoices_fair.cas, fairChoices_fair.clock, w_frames, w_args, w_heap, w_applies, ⟨w_consts, trivial⟩, w_rest, w_case⟩
end start1
theorem witness_1 : WitnessClaimed_1 := ⟨start1.p0, start1.e0, start1.about1, start1.theMethod, start1.args0, start1.below0, start1.atStart⟩
end Jvm.Pilot.@@N@@
