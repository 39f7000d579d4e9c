import JvmDerived
import JvmDerived.Pilot.@@N@@Statement
import JvmDerived.Pilot.@@N@@Code
set_option linter.unusedVariables false
set_option linter.unusedSimpArgs false
@@BLOCK:NumsL.lean.txt@@
namespace Jvm.RoadKit
open Sem ClassFile Op Lib Jvm.Stand Jvm.Free Jvm.LawKit
section New
variable {p : Program} {l : Launch} {e : Env} {R : Room} {s : State} {m : MethodId} {args : Array Value} {below : List Frame} {meth : Method} {c : Code} {T : State} {locs : List Loc} {cells slots : Nat}
theorem retI (X : Stand p l e R s m args below meth c T locs cells slots) (hx : p.tables.exec = Jvm.exec) {pc : Nat} {Ls : Array Slot} {z : Int32} {rest : List Value} (hret : meth.sig.returnType = some .int) (hd : decode c.code pc = .ok (.ireturn, 1)) {fs : List Frame}
    (hl : ∀ (f : JFrame) (acts : List Action), f.method = m → f.locked = none → f.entered = [] → (doReturn e (T.setTop f) acts (some (.int z))).1 = T.setFrames fs) : Steps p.tables e below (T.setTop (mkF m pc Ls (.int z :: rest))) (T.setFrames fs) := by
  have hm' : T.vm.method? m = some meth := X.method'
  have hn : narrow .int (.int z) = .int z := rfl
  show Steps p.tables e below (T.setTop { method := m, pc := pc, locals := Ls, stack := _ :: rest, locked := none }) _
  jvm_step X.here [X.here.top, hx, hd, hm', hret, hn]
  first | (intro acts; rw [hl _ acts rfl rfl rfl]) | rw [hl _ _ rfl rfl rfl]
  exact Steps.refl _
end New
end Jvm.RoadKit
/- laws to paste: Road.backV, Road.lenW, Road.chN, Road.eqW (cut by pick.py; bodies as the Statement names them) -/
namespace Jvm.Pilot.@@N@@
namespace StrChars
open Jvm Sem ClassFile Op Lib Jvm.Stand Jvm.Free.XT Jvm.Free.ALB Jvm.Free.JM Jvm.Free
open Jvm.Lib.Cold (StaticIs)
/-- a char array whose places are chars -/
def Ch (a : Addr) (A : Cell) (U : State) : Prop := Arr .char a A U ∧ Typed .char A
theorem Ch.mv {a : Addr} {A : Cell} {U U' : State} (h : Ch a A U) (hal : U.vm.Alike U'.vm) (hh : U'.heap = U.heap) : Ch a A U' := ⟨h.1.mv hal hh, h.2⟩
theorem Ch.keep {a : Addr} {A : Cell} {U U' : State} (h : Ch a A U) (hal : U.vm.Alike U'.vm) (hk : U'.heap[a]? = some A) : Ch a A U' := ⟨h.1.keep hal hk, h.2⟩
/-- what place i of a char[]'s cell holds -/
def cv (A : Cell) (i : Nat) : Int32 := match A.slots[i]? with | some (.int x) => x | _ => 0
theorem Ch.get {a : Addr} {A : Cell} {U : State} (h : Ch a A U) {i : Nat} (hi : i < A.slots.size) : A.slots[i]? = some (.int (cv A i)) := by
  have e := Array.getElem?_eq_getElem hi
  have f := h.2 i _ e
  unfold cv; rw [e]
  generalize A.slots[i] = v at f
  cases v <;> simp [fits] at f ⊢
/-- the byte that i2b leaves of a char -/
def lo8 (x : Int32) : Int32 := x.toInt8.toInt32
theorem fits_lo8 (y : Int32) : fits .byte (.int (lo8 y)) = true := by
  have h1 := y.toInt8.le_toInt
  have h2 := y.toInt8.toInt_lt
  simp only [lo8, fits, Bool.and_eq_true, decide_eq_true_eq, Int32.le_iff_toInt_le, Int8.toInt_toInt32, show (-128 : Int32).toInt = -128 from by decide, show (127 : Int32).toInt = 127 from by decide]
  omega
/-- A' is A but that each place j of lo .. hi - 1 holds f j -/
def Laid (A A' : Cell) (lo hi : Nat) (f : Nat → Value) : Prop := A'.cls = A.cls ∧ A'.vm = A.vm ∧ A'.slots.size = A.slots.size ∧ ∀ i, A'.slots[i]? = if lo ≤ i ∧ i < hi then some (f i) else A.slots[i]?
theorem Laid.zero (A : Cell) (lo : Nat) (f : Nat → Value) : Laid A A lo (lo + 0) f := ⟨rfl, rfl, rfl, fun i => by rw [if_neg (by omega)]⟩
theorem Laid.step {A Ak : Cell} {lo k : Nat} {f : Nat → Value} {v : Value} (h : Laid A Ak lo k f) (hlo : lo ≤ k) (hk : k < Ak.slots.size) (hv : v = f k) : Laid A (Ak.setSlot k v) lo (k + 1) f := by
  refine ⟨h.1, h.2.1, by simpa [Cell.setSlot] using h.2.2.1, fun i => ?_⟩
  by_cases e : k = i
  · subst e; rw [Cell.slots_setSlot_self v hk, if_pos (by omega), hv]
  · rw [Cell.slots_setSlot_ne v e, h.2.2.2 i]
    by_cases q : lo ≤ i ∧ i < k
    · rw [if_pos q, if_pos (by omega)]
    · rw [if_neg q, if_neg (by omega)]
def U16 : String := "java/lang/StringUTF16"
namespace Cmp5
def yN : MethodName := ⟨"java/lang/StringUTF16", "compress", "([CI[BII)I"⟩
abbrev yB : ByteArray := jdk_52_method_21_code
theorem d0 : decode yB 0 = .ok (.iconst 0, 1) := by decide +kernel
theorem d1 : decode yB 1 = .ok (.istore 5, 2) := by decide +kernel
theorem d3 : decode yB 3 = .ok (.iload 5, 2) := by decide +kernel
theorem d5 : decode yB 5 = .ok (.iload 4, 2) := by decide +kernel
theorem d7 : decode yB 7 = .ok (.if_icmp (.ge) 37, 3) := by decide +kernel
theorem d10 : decode yB 10 = .ok (.aload_n 0, 1) := by decide +kernel
theorem d11 : decode yB 11 = .ok (.iload_n 1, 1) := by decide +kernel
theorem d12 : decode yB 12 = .ok (.caload, 1) := by decide +kernel
theorem d13 : decode yB 13 = .ok (.istore 6, 2) := by decide +kernel
theorem d15 : decode yB 15 = .ok (.iload 6, 2) := by decide +kernel
theorem d17 : decode yB 17 = .ok (.sipush 255, 3) := by decide +kernel
theorem d20 : decode yB 20 = .ok (.if_icmp (.le) 6, 3) := by decide +kernel
theorem d26 : decode yB 26 = .ok (.aload_n 2, 1) := by decide +kernel
theorem d27 : decode yB 27 = .ok (.iload_n 3, 1) := by decide +kernel
theorem d28 : decode yB 28 = .ok (.iload 6, 2) := by decide +kernel
theorem d30 : decode yB 30 = .ok (.i2b, 1) := by decide +kernel
theorem d31 : decode yB 31 = .ok (.bastore, 1) := by decide +kernel
theorem d32 : decode yB 32 = .ok (.iinc 1 1, 3) := by decide +kernel
theorem d35 : decode yB 35 = .ok (.iinc 3 1, 3) := by decide +kernel
theorem d38 : decode yB 38 = .ok (.iinc 5 1, 3) := by decide +kernel
theorem d41 : decode yB 41 = .ok (.goto (-38), 3) := by decide +kernel
theorem d44 : decode yB 44 = .ok (.iload 4, 2) := by decide +kernel
theorem d46 : decode yB 46 = .ok (.ireturn, 1) := by decide +kernel
def site : List Cond := []
def tab : Cond := tabOf yN yB 7 (some .int) site
def P (b : Addr) (A : Cell) (d : Addr) (B : Cell) (o q len : Nat) (args : Array Value) (s : State) : Prop := args = #[.ref b, .int (Int32.ofNat o), .ref d, .int (Int32.ofNat q), .int (Int32.ofNat len)] ∧ Ch b A s ∧ Arr .byte d B s ∧ b ≠ d ∧ o + len ≤ A.slots.size ∧ q + len ≤ B.slots.size ∧ ∀ i, i < len → ¬ 255 < cv A (o + i)
def E (b : Addr) (A : Cell) (d : Addr) (B : Cell) (o q len : Nat) (r : Option Value) (s u : State) : Prop := r = some (.int (Int32.ofNat len)) ∧ ∃ B', Put d B' s u ∧ Laid B B' q (q + len) (fun j => Value.int (lo8 (cv A (o + (j - q)))))
/-- no char of the range above 255: len; the places written hold each char's low byte -/
theorem law (l : Launch) (b : Addr) (A : Cell) (d : Addr) (B : Cell) (o q len : Nat) : Law l yN 5 5 0 0 yB 7 (some .int) site (P b A d B o q len) (E b A d B o q len) (copyLocs d q len) 0 0 := by
  refine Law.of_walk (plainFor_of_name (by decide +kernel)) (by decide +kernel) (by decide +kernel) (by decide) (fun _ _ h => by rw [h.1]; rfl) (fun _ U U' hal hh h => ⟨h.1, h.2.1.mv hal hh, h.2.2.1.mv hal hh, h.2.2.2⟩) (fun r U U' V V' h1 hal h2 h => ⟨h.1, h.2.elim fun B' q => ⟨B', q.1.mv h1 h2, q.2⟩⟩) ?_
  intro p e s m args below meth c s₁ X0 hexec hbytes hml hret hlk hnm hown hh0 W hP
  obtain ⟨rfl, hA, hB, hne, l1, l2, hp⟩ := hP
  have c1 : Steps p.tables e below (s₁.setTop (entryFrame m #[.ref b, .int (Int32.ofNat o), .ref d, .int (Int32.ofNat q), .int (Int32.ofNat len)] 7)) (s₁.setTop (mkF m 0 #[.val (.ref b), .val (.int (Int32.ofNat o)), .val (.ref d), .val (.int (Int32.ofNat q)), .val (.int (Int32.ofNat len)), .unset, .unset] [])) := entry rfl
  have hA0 := hA.1.mv X0.warmed.alike hh0
  have hB0 := hB.mv X0.warmed.alike hh0
  have a31 := hA.1.2.2.2
  have c2 : Steps p.tables e below (s₁.setTop (entryFrame m #[.ref b, .int (Int32.ofNat o), .ref d, .int (Int32.ofNat q), .int (Int32.ofNat len)] 7)) (s₁.setTop (mkF m 3 #[.val (.ref b), .val (.int (Int32.ofNat o)), .val (.ref d), .val (.int (Int32.ofNat q)), .val (.int (Int32.ofNat len)), .val (.int 0), .unset] [])) := c1.trans (by
    refine iconstV X0.here hexec rfl 0 (hb hbytes d0) (by decide) ?_
    refine XS.istore X0.here hexec rfl (hb hbytes d1) rfl rfl ?_
    exact Steps.refl _)
  have loop : ∀ (r i : Nat), i + r = len → ∀ (z : Slot), (z = .unset ∨ ∃ w, z = .val w ∧ w.category = 1) → ∀ (Tl : State) (Bk : Cell), Stand p l e { frames := 0, locals := 0, cells := 0, slots := 0 } s m #[.ref b, .int (Int32.ofNat o), .ref d, .int (Int32.ofNat q), .int (Int32.ofNat len)] below meth c Tl ([] ++ copyLocs d q i) 0 0 → Put d Bk s₁ Tl → Laid B Bk q (q + i) (fun j => Value.int (lo8 (cv A (o + (j - q))))) →
      Steps p.tables e below (s₁.setTop (entryFrame m #[.ref b, .int (Int32.ofNat o), .ref d, .int (Int32.ofNat q), .int (Int32.ofNat len)] 7)) (Tl.setTop (mkF m 3 #[.val (.ref b), .val (.int (Int32.ofNat (o + i))), .val (.ref d), .val (.int (Int32.ofNat (q + i))), .val (.int (Int32.ofNat len)), .val (.int (Int32.ofNat i)), z] [])) → ∃ (T' : State) (B' : Cell) (z' : Slot), Stand p l e { frames := 0, locals := 0, cells := 0, slots := 0 } s m #[.ref b, .int (Int32.ofNat o), .ref d, .int (Int32.ofNat q), .int (Int32.ofNat len)] below meth c T' ([] ++ copyLocs d q len) 0 0 ∧ Put d B' s₁ T' ∧ Laid B B' q (q + len) (fun j => Value.int (lo8 (cv A (o + (j - q))))) ∧
      Steps p.tables e below (s₁.setTop (entryFrame m #[.ref b, .int (Int32.ofNat o), .ref d, .int (Int32.ofNat q), .int (Int32.ofNat len)] 7)) (T'.setTop (mkF m 3 #[.val (.ref b), .val (.int (Int32.ofNat (o + len))), .val (.ref d), .val (.int (Int32.ofNat (q + len))), .val (.int (Int32.ofNat len)), .val (.int (Int32.ofNat len)), z'] [])) := by
    intro r
    induction r with
    | zero =>
      intro i hi z hz Tl Bk Xl pl fl cl
      have hil : i = len := by omega
      rw [hil] at Xl fl cl
      exact ⟨Tl, Bk, z, Xl, pl, fl, cl⟩
    | succ r ih =>
      intro i hi z hz Tl Bk Xl pl fl cl
      have all := X0.warmed.alike.symm.trans Xl.warmed.alike
      have hAl := hA0.keep all (pl.other hne hA0.1)
      have hBk := hB0.like all pl.1 fl.1 fl.2.1 fl.2.2.1
      have hlt : q + i < Bk.slots.size := by rw [fl.2.2.1]; omega
      have c3 : Steps p.tables e below (s₁.setTop (entryFrame m #[.ref b, .int (Int32.ofNat o), .ref d, .int (Int32.ofNat q), .int (Int32.ofNat len)] 7)) (Tl.setTop (mkF m 12 #[.val (.ref b), .val (.int (Int32.ofNat (o + i))), .val (.ref d), .val (.int (Int32.ofNat (q + i))), .val (.int (Int32.ofNat len)), .val (.int (Int32.ofNat i)), z] [.int (Int32.ofNat (o + i)), .ref b])) := cl.trans (by
        refine XS.iload Xl.here hexec rfl (hb hbytes d3) rfl ?_
        refine XS.iload Xl.here hexec rfl (hb hbytes d5) rfl ?_
        refine XS.icmpNo Xl.here hexec rfl (hb hbytes d7) rfl (ii_ge_f (lt32 (by omega) (by omega))) ?_
        refine XS.aloadN Xl.here hexec rfl (hb hbytes d10) rfl rfl ?_
        refine XS.iloadN Xl.here hexec rfl (hb hbytes d11) rfl ?_
        exact Steps.refl _)
      have c4 : Steps p.tables e below (s₁.setTop (entryFrame m #[.ref b, .int (Int32.ofNat o), .ref d, .int (Int32.ofNat q), .int (Int32.ofNat len)] 7)) (Tl.setTop (mkF m 13 #[.val (.ref b), .val (.int (Int32.ofNat (o + i))), .val (.ref d), .val (.int (Int32.ofNat (q + i))), .val (.int (Int32.ofNat len)), .val (.int (Int32.ofNat i)), z] [.int (cv A (o + i))])) := c3.trans (by
        refine Xl.aget hexec hAl rfl (hA.get (i := o + i) (by omega)) rfl rfl (hb hbytes d12) ?_
        exact Steps.refl _)
      have c5 : Steps p.tables e below (s₁.setTop (entryFrame m #[.ref b, .int (Int32.ofNat o), .ref d, .int (Int32.ofNat q), .int (Int32.ofNat len)] 7)) (Tl.setTop (mkF m 15 #[.val (.ref b), .val (.int (Int32.ofNat (o + i))), .val (.ref d), .val (.int (Int32.ofNat (q + i))), .val (.int (Int32.ofNat len)), .val (.int (Int32.ofNat i)), .val (.int (cv A (o + i)))] [])) := c4.trans (by
        refine XS.istoreS Xl.here hexec rfl (hb hbytes d13) rfl rfl hz ?_
        exact Steps.refl _)
      have c6 : Steps p.tables e below (s₁.setTop (entryFrame m #[.ref b, .int (Int32.ofNat o), .ref d, .int (Int32.ofNat q), .int (Int32.ofNat len)] 7)) (Tl.setTop (mkF m 31 #[.val (.ref b), .val (.int (Int32.ofNat (o + i))), .val (.ref d), .val (.int (Int32.ofNat (q + i))), .val (.int (Int32.ofNat len)), .val (.int (Int32.ofNat i)), .val (.int (cv A (o + i)))] [.int (lo8 (cv A (o + i))), .int (Int32.ofNat (q + i)), .ref d])) := c5.trans (by
        refine XS.iload Xl.here hexec rfl (hb hbytes d15) rfl ?_
        refine sipushV Xl.here hexec rfl 255 (hb hbytes d17) (by decide) ?_
        refine XS.icmpYes Xl.here hexec rfl (pc0 := 20) rfl (hb hbytes d20) rfl (ii_le_t (hp i (by omega))) (by decide) rfl ?_
        refine XS.aloadN Xl.here hexec rfl (hb hbytes d26) rfl rfl ?_
        refine XS.iloadN Xl.here hexec rfl (hb hbytes d27) rfl ?_
        refine XS.iload Xl.here hexec rfl (hb hbytes d28) rfl ?_
        refine i2b Xl.here hexec rfl (hb hbytes d30) rfl ?_
        exact Steps.refl _)
      obtain ⟨T7, X7, p7, st7⟩ := Xl.aput hexec hBk rfl hlt rfl (fits_lo8 (cv A (o + i))) (g := (mkF m 31 #[.val (.ref b), .val (.int (Int32.ofNat (o + i))), .val (.ref d), .val (.int (Int32.ofNat (q + i))), .val (.int (Int32.ofNat len)), .val (.int (Int32.ofNat i)), .val (.int (cv A (o + i)))] [.int (lo8 (cv A (o + i))), .int (Int32.ofNat (q + i)), .ref d])) rfl (rest := []) rfl (hb hbytes d31)
      have c8 : Steps p.tables e below (s₁.setTop (entryFrame m #[.ref b, .int (Int32.ofNat o), .ref d, .int (Int32.ofNat q), .int (Int32.ofNat len)] 7)) (T7.setTop (mkF m 32 #[.val (.ref b), .val (.int (Int32.ofNat (o + i))), .val (.ref d), .val (.int (Int32.ofNat (q + i))), .val (.int (Int32.ofNat len)), .val (.int (Int32.ofNat i)), .val (.int (cv A (o + i)))] [])) := c6.trans (st7 _ (Steps.refl _))
      have c9 : Steps p.tables e below (s₁.setTop (entryFrame m #[.ref b, .int (Int32.ofNat o), .ref d, .int (Int32.ofNat q), .int (Int32.ofNat len)] 7)) (T7.setTop (mkF m 3 #[.val (.ref b), .val (.int (Int32.ofNat (o + i) + 1)), .val (.ref d), .val (.int (Int32.ofNat (q + i) + 1)), .val (.int (Int32.ofNat len)), .val (.int (Int32.ofNat i + 1)), .val (.int (cv A (o + i)))] [])) := c8.trans (by
        refine iincV X7.here hexec rfl 1 (hb hbytes d32) (by decide) rfl rfl ?_
        refine iincV X7.here hexec rfl 1 (hb hbytes d35) (by decide) rfl rfl ?_
        refine iincV X7.here hexec rfl 1 (hb hbytes d38) (by decide) rfl rfl ?_
        refine XS.goto X7.here hexec rfl (pc0 := 41) rfl (hb hbytes d41) (by decide) rfl ?_
        exact Steps.refl _)
      have c10 : Steps p.tables e below (s₁.setTop (entryFrame m #[.ref b, .int (Int32.ofNat o), .ref d, .int (Int32.ofNat q), .int (Int32.ofNat len)] 7)) (T7.setTop (mkF m 3 #[.val (.ref b), .val (.int (Int32.ofNat (o + (i + 1)))), .val (.ref d), .val (.int (Int32.ofNat (q + (i + 1)))), .val (.int (Int32.ofNat len)), .val (.int (Int32.ofNat (i + 1))), .val (.int (cv A (o + i)))] [])) := by
        have := c9
        rw [succ32, succ32, succ32] at this
        exact this
      exact ih (i + 1) (by omega) _ (Or.inr ⟨_, rfl, rfl⟩) T7 _ (by rw [copyLocs_step, ← List.append_assoc]; exact X7) (pl.trans p7) (fl.step (by omega) hlt (by simp)) c10
  obtain ⟨T9, B9, z9, X9, p9, f9, g9⟩ := loop len 0 (by omega) .unset (Or.inl rfl) s₁ B (by simpa [copyLocs] using X0) ⟨hB0.1, fun _ _ => rfl, rfl⟩ (Laid.zero _ _ _) c2
  have c11 : Steps p.tables e below (s₁.setTop (entryFrame m #[.ref b, .int (Int32.ofNat o), .ref d, .int (Int32.ofNat q), .int (Int32.ofNat len)] 7)) (T9.setTop (mkF m 46 #[.val (.ref b), .val (.int (Int32.ofNat (o + len))), .val (.ref d), .val (.int (Int32.ofNat (q + len))), .val (.int (Int32.ofNat len)), .val (.int (Int32.ofNat len)), z9] [.int (Int32.ofNat len)])) := g9.trans (by
    refine XS.iload X9.here hexec rfl (hb hbytes d3) rfl ?_
    refine XS.iload X9.here hexec rfl (hb hbytes d5) rfl ?_
    refine XS.icmpYes X9.here hexec rfl (pc0 := 7) rfl (hb hbytes d7) rfl (ii_ge_t (nlt32 (by omega) (Nat.le_refl _))) (by decide) rfl ?_
    refine XS.iload X9.here hexec rfl (hb hbytes d44) rfl ?_
    exact Steps.refl _)
  exact ⟨T9, some (.int (Int32.ofNat len)), _, _, _, X9, by simp, rfl, rfl, (fun h => by cases h), ⟨rfl, B9, p9.from hh0, f9⟩, fun fs hl => c11.trans (X9.ireturnOut hexec hret rfl (Or.inl rfl) (hb hbytes d46) hl)⟩
end Cmp5
namespace Cmp3
def yN : MethodName := ⟨"java/lang/StringUTF16", "compress", "([CII)[B"⟩
abbrev yB : ByteArray := jdk_52_method_16_code
theorem d0 : decode yB 0 = .ok (.iload_n 2, 1) := by decide +kernel
theorem d1 : decode yB 1 = .ok (.newarray .byte, 2) := by decide +kernel
theorem d3 : decode yB 3 = .ok (.astore_n 3, 1) := by decide +kernel
theorem d4 : decode yB 4 = .ok (.aload_n 0, 1) := by decide +kernel
theorem d5 : decode yB 5 = .ok (.iload_n 1, 1) := by decide +kernel
theorem d6 : decode yB 6 = .ok (.aload_n 3, 1) := by decide +kernel
theorem d7 : decode yB 7 = .ok (.iconst 0, 1) := by decide +kernel
theorem d8 : decode yB 8 = .ok (.iload_n 2, 1) := by decide +kernel
theorem d9 : decode yB 9 = .ok (.invokestatic 115, 3) := by decide +kernel
theorem d12 : decode yB 12 = .ok (.istore 4, 2) := by decide +kernel
theorem d14 : decode yB 14 = .ok (.iload 4, 2) := by decide +kernel
theorem d16 : decode yB 16 = .ok (.iload_n 2, 1) := by decide +kernel
theorem d17 : decode yB 17 = .ok (.if_icmp (.eq) 40, 3) := by decide +kernel
theorem d57 : decode yB 57 = .ok (.aload_n 3, 1) := by decide +kernel
theorem d58 : decode yB 58 = .ok (.areturn, 1) := by decide +kernel
def site : List Cond := [.arrayClass .byte, Cmp5.tab] ++ staticW U16 115 Cmp5.yN
def tab : Cond := tabOf yN yB 6 (some (.array .byte)) site
def P (b : Addr) (A : Cell) (o len : Nat) (args : Array Value) (s : State) : Prop := args = #[.ref b, .int (Int32.ofNat o), .int (Int32.ofNat len)] ∧ Ch b A s ∧ o + len ≤ A.slots.size ∧ len ≤ 536870912 ∧ ∀ i, i < len → ¬ 255 < cv A (o + i)
def E (b : Addr) (A : Cell) (o len : Nat) (r : Option Value) (s u : State) : Prop := NewArr .byte "[B" len (fun j => .int (lo8 (cv A (o + j)))) r s u ∧ u.heap.size = s.heap.size + 1
/-- no char of the range above 255: a new byte[] of their low bytes -/
theorem law (l : Launch) (b : Addr) (A : Cell) (o len : Nat) : Law l yN 3 3 1 18 yB 6 (some (.array .byte)) site (P b A o len) (E b A o len) [] 1 len := by
  refine Law.of_walk (plainFor_of_name (by decide +kernel)) (by decide +kernel) (by decide +kernel) (by decide) (fun _ _ h => by rw [h.1]; rfl) (fun _ U U' hal hh h => ⟨h.1, h.2.1.mv hal hh, h.2.2⟩) (fun r U U' V V' h1 hal h2 h => ⟨NewArr.mv r U U' V V' h1 hal h2 h.1, by rw [h1, h2]; exact h.2⟩) ?_
  intro p e s m args below meth c s₁ X0 hexec hbytes hml hret hlk hnm hown hh0 W hP
  obtain ⟨rfl, hA, l1, l2, hp⟩ := hP
  have a31 := hA.1.2.2.2
  have c1 : Steps p.tables e below (s₁.setTop (entryFrame m #[.ref b, .int (Int32.ofNat o), .int (Int32.ofNat len)] 6)) (s₁.setTop (mkF m 0 #[.val (.ref b), .val (.int (Int32.ofNat o)), .val (.int (Int32.ofNat len)), .unset, .unset, .unset] [])) := entry rfl
  have c2 : Steps p.tables e below (s₁.setTop (entryFrame m #[.ref b, .int (Int32.ofNat o), .int (Int32.ofNat len)] 6)) (s₁.setTop (mkF m 1 #[.val (.ref b), .val (.int (Int32.ofNat o)), .val (.int (Int32.ofNat len)), .unset, .unset, .unset] [.int (Int32.ofNat len)])) := c1.trans (by
    refine XS.iloadN X0.here hexec rfl (hb hbytes d0) rfl ?_
    exact Steps.refl _)
  obtain ⟨T3, B3, X3, ba3, bs3, bv3, bh3, bf3, st3⟩ := X0.anew hexec (atype := .byte) (wk W (.arrayClass .byte)) rfl (by show len * 1 ≤ _; omega) (by omega) (g := (mkF m 1 #[.val (.ref b), .val (.int (Int32.ofNat o)), .val (.int (Int32.ofNat len)), .unset, .unset, .unset] [.int (Int32.ofNat len)])) rfl (hb hbytes d1) (rest := []) rfl (Nat.le_refl _) (by show 0 + len ≤ len; omega)
  rw [hh0] at ba3 st3
  have kp3 : XT.Kept s T3 := (XT.Kept.of_eq hh0).push bh3
  have hA3 := hA.keep X3.warmed.alike (kp3 _ _ hA.1.1)
  have hne : b ≠ s.heap.size := hA.1.ne
  have c4 : Steps p.tables e below (s₁.setTop (entryFrame m #[.ref b, .int (Int32.ofNat o), .int (Int32.ofNat len)] 6)) (T3.setTop (mkF m 3 #[.val (.ref b), .val (.int (Int32.ofNat o)), .val (.int (Int32.ofNat len)), .unset, .unset, .unset] [.ref s.heap.size])) := c2.trans (st3 _ (Steps.refl _))
  have c5 : Steps p.tables e below (s₁.setTop (entryFrame m #[.ref b, .int (Int32.ofNat o), .int (Int32.ofNat len)] 6)) (T3.setTop (mkF m 9 #[.val (.ref b), .val (.int (Int32.ofNat o)), .val (.int (Int32.ofNat len)), .val (.ref s.heap.size), .unset, .unset] [.int (Int32.ofNat len), .int 0, .ref s.heap.size, .int (Int32.ofNat o), .ref b])) := c4.trans (by
    refine XS.astoreN X3.here hexec rfl (hb hbytes d3) rfl rfl rfl ?_
    refine XS.aloadN X3.here hexec rfl (hb hbytes d4) rfl rfl ?_
    refine XS.iloadN X3.here hexec rfl (hb hbytes d5) rfl ?_
    refine XS.aloadN X3.here hexec rfl (hb hbytes d6) rfl rfl ?_
    refine iconstV X3.here hexec rfl 0 (hb hbytes d7) (by decide) ?_
    refine XS.iloadN X3.here hexec rfl (hb hbytes d8) rfl ?_
    exact Steps.refl _)
  obtain ⟨v6, T6, X6, E6, g6⟩ := X3.callS hexec (Cmp5.law l b A s.heap.size B3 o 0 len) hown (wks W (staticW U16 115 Cmp5.yN)) (wk W Cmp5.tab) (W := 0) (Nat.le_of_ble_eq_true rfl) (Nat.le_of_ble_eq_true rfl) (Nat.le_refl _) (by show 0 + len + 0 ≤ len; omega) (g := (mkF m 9 #[.val (.ref b), .val (.int (Int32.ofNat o)), .val (.int (Int32.ofNat len)), .val (.ref s.heap.size), .unset, .unset] [.int (Int32.ofNat len), .int (Int32.ofNat 0), .ref s.heap.size, .int (Int32.ofNat o), .ref b])) rfl (by rw [hml]; rfl) c5 (argsL := [.ref b, .int (Int32.ofNat o), .ref s.heap.size, .int (Int32.ofNat 0), .int (Int32.ofNat len)]) (rest := []) rfl rfl (by show 2 * 0 + 0 ≤ _; decide) (hb hbytes d9) (⟨rfl, hA3, ba3, hne, l1, by rw [bs3]; simp, hp⟩)
  obtain ⟨rfl, B6, p6, f6⟩ := E6
  have c7 : Steps p.tables e below (s₁.setTop (entryFrame m #[.ref b, .int (Int32.ofNat o), .int (Int32.ofNat len)] 6)) (T6.setTop (mkF m 12 #[.val (.ref b), .val (.int (Int32.ofNat o)), .val (.int (Int32.ofNat len)), .val (.ref s.heap.size), .unset, .unset] [.int (Int32.ofNat len)])) := g6
  have c8 : Steps p.tables e below (s₁.setTop (entryFrame m #[.ref b, .int (Int32.ofNat o), .int (Int32.ofNat len)] 6)) (T6.setTop (mkF m 58 #[.val (.ref b), .val (.int (Int32.ofNat o)), .val (.int (Int32.ofNat len)), .val (.ref s.heap.size), .val (.int (Int32.ofNat len)), .unset] [.ref s.heap.size])) := c7.trans (by
    refine XS.istore X6.here hexec rfl (hb hbytes d12) rfl rfl ?_
    refine XS.iload X6.here hexec rfl (hb hbytes d14) rfl ?_
    refine XS.iloadN X6.here hexec rfl (hb hbytes d16) rfl ?_
    refine XS.icmpYes X6.here hexec rfl (pc0 := 17) rfl (hb hbytes d17) rfl (ii_eq_t rfl) (by decide) rfl ?_
    refine XS.aloadN X6.here hexec rfl (hb hbytes d57) rfl rfl ?_
    exact Steps.refl _)
  have X8 := X6.wide (L' := []) (cells' := 1) (slots' := len) (fun x hx hlt => by
    simp only [List.nil_append, copyLocs, List.mem_map, List.mem_range] at hx
    obtain ⟨i, -, rfl⟩ := hx
    exact absurd hlt (Nat.lt_irrefl _)) (Nat.le_refl _) (by omega)
  exact ⟨T6, some (.ref s.heap.size), _, _, _, X8, rfl, rfl, rfl, (fun h => by cases h), ⟨⟨rfl, B6, ba3.like (X3.warmed.alike.symm.trans X6.warmed.alike) p6.1 f6.1 f6.2.1 f6.2.2.1, f6.2.1.trans bv3, by rw [X6.warmed.alike.findClass, f6.1]; exact bf3, by rw [f6.2.2.1, bs3]; simp, fun j hj => by rw [f6.2.2.2 j, if_pos (by omega)]; rfl, kp3.put p6 (Nat.le_refl _)⟩, by rw [p6.2.2, bh3, hh0]; simp⟩, fun fs hl => c8.trans (X8.areturnOut hexec rfl hret rfl (hb hbytes d58) hl)⟩
end Cmp3
namespace CodL
def yN : MethodName := ⟨"java/lang/StringUTF16", "coderFromArrayLen", "([BI)B"⟩
abbrev yB : ByteArray := jdk_52_method_15_code
theorem d0 : decode yB 0 = .ok (.iload_n 1, 1) := by decide +kernel
theorem d1 : decode yB 1 = .ok (.aload_n 0, 1) := by decide +kernel
theorem d2 : decode yB 2 = .ok (.arraylength, 1) := by decide +kernel
theorem d3 : decode yB 3 = .ok (.isub, 1) := by decide +kernel
theorem d4 : decode yB 4 = .ok (.bipush 31, 2) := by decide +kernel
theorem d6 : decode yB 6 = .ok (.iushr, 1) := by decide +kernel
theorem d7 : decode yB 7 = .ok (.i2b, 1) := by decide +kernel
theorem d8 : decode yB 8 = .ok (.ireturn, 1) := by decide +kernel
def site : List Cond := []
def tab : Cond := tabOf yN yB 2 (some .byte) site
def P (d : Addr) (B : Cell) (args : Array Value) (s : State) : Prop := args = #[.ref d, .int (Int32.ofNat B.slots.size)] ∧ Arr .byte d B s
def E (r : Option Value) (s u : State) : Prop := XT.PureE (some (.int 0)) r s u
/-- an array as long as the number of chars: LATIN1 -/
theorem law (l : Launch) (d : Addr) (B : Cell) : Law l yN 2 2 0 0 yB 2 (some .byte) site (P d B) E [] 0 0 := by
  refine Law.of_walk (plainFor_of_name (by decide +kernel)) (by decide +kernel) (by decide +kernel) (by decide) (fun _ _ h => by rw [h.1]; rfl) (fun _ U U' hal hh h => ⟨h.1, h.2.mv hal hh⟩) (fun r U U' V V' h1 hal h2 h => XT.PureE.mv r U U' V V' h1 hal h2 h) ?_
  intro p e s m args below meth c s₁ X0 hexec hbytes hml hret hlk hnm hown hh0 W hP
  obtain ⟨rfl, hB⟩ := hP
  have hB0 := hB.mv X0.warmed.alike hh0
  have c1 : Steps p.tables e below (s₁.setTop (entryFrame m #[.ref d, .int (Int32.ofNat B.slots.size)] 2)) (s₁.setTop (mkF m 0 #[.val (.ref d), .val (.int (Int32.ofNat B.slots.size))] [])) := entry rfl
  have c2 : Steps p.tables e below (s₁.setTop (entryFrame m #[.ref d, .int (Int32.ofNat B.slots.size)] 2)) (s₁.setTop (mkF m 2 #[.val (.ref d), .val (.int (Int32.ofNat B.slots.size))] [.ref d, .int (Int32.ofNat B.slots.size)])) := c1.trans (by
    refine XS.iloadN X0.here hexec rfl (hb hbytes d0) rfl ?_
    refine XS.aloadN X0.here hexec rfl (hb hbytes d1) rfl rfl ?_
    exact Steps.refl _)
  have c3 : Steps p.tables e below (s₁.setTop (entryFrame m #[.ref d, .int (Int32.ofNat B.slots.size)] 2)) (s₁.setTop (mkF m 8 #[.val (.ref d), .val (.int (Int32.ofNat B.slots.size))] [.int (lo8 (ushr (Int32.ofNat B.slots.size - Int32.ofNat B.slots.size) 31))])) := c2.trans (by
    refine X0.alen hexec hB0 rfl rfl (hb hbytes d2) ?_
    refine XS.isub X0.here hexec rfl (hb hbytes d3) rfl ?_
    refine bipushV X0.here hexec rfl 31 (hb hbytes d4) (by decide) ?_
    refine iushr X0.here hexec rfl (hb hbytes d6) rfl ?_
    refine i2b X0.here hexec rfl (hb hbytes d7) rfl ?_
    exact Steps.refl _)
  have e0 : lo8 (ushr (Int32.ofNat B.slots.size - Int32.ofNat B.slots.size) 31) = 0 := by rw [Int32.sub_self]; decide
  rw [e0] at c3
  exact ⟨s₁, some (.int 0), _, _, _, X0, rfl, rfl, rfl, (fun h => by cases h), ⟨rfl, hh0⟩, fun fs hl => c3.trans (X0.ireturnOut hexec hret rfl (Or.inr (Or.inr (Or.inl rfl))) (hb hbytes d8) hl)⟩
end CodL
/-- the String at a is Latin-1 over a new byte[] (the heap's one new cell): the low bytes of the len chars of A from o on; every cell but a is kept -/
def Got (a : Addr) (D : Cell) (fV fC : Field) (A : Cell) (o len : Nat) (r : Option Value) (s u : State) : Prop := r = none ∧ ∃ D' V : Cell, Blank "java/lang/String" a D' u ∧ Same D D' [fV.slot, fC.slot] ∧ D'.slots[fV.slot]? = some (.ref s.heap.size) ∧ D'.slots[fC.slot]? = some (.int 0) ∧ Arr .byte s.heap.size V u ∧ V.vm = .none ∧ u.vm.findClass "[B" = some V.cls ∧ V.slots.size = len ∧ (∀ j, j < len → V.slots[j]? = some (.int (lo8 (cv A (o + j))))) ∧ (∀ (y : Addr) (c : Cell), y ≠ a → s.heap[y]? = some c → u.heap[y]? = some c) ∧ u.heap.size = s.heap.size + 1
theorem Got.mv {a : Addr} {D A : Cell} {fV fC : Field} {o len : Nat} : ∀ r (U U' V V' : State), U'.heap = U.heap → V.vm.Alike V'.vm → V'.heap = V.heap → Got a D fV fC A o len r U V → Got a D fV fC A o len r U' V' :=
  fun r U U' V V' h1 hal h2 ⟨e0, D', X, a1, a2, a3, a4, a5, a6, a7, a8, a9, a10, a11⟩ => ⟨e0, D', X, a1.mv hal h2, a2, by rw [h1]; exact a3, a4, by rw [h1]; exact a5.mv hal h2, a6, by rw [hal.findClass]; exact a7, a8, a9, by rw [h1, h2]; exact a10, by rw [h1, h2]; exact a11⟩
namespace New4
def yN : MethodName := ⟨"java/lang/String", "<init>", "([CIILjava/lang/Void;)V"⟩
abbrev yB : ByteArray := jdk_42_method_149_code
theorem d0 : decode yB 0 = .ok (.aload_n 0, 1) := by decide +kernel
theorem d1 : decode yB 1 = .ok (.invokespecial 1, 3) := by decide +kernel
theorem d4 : decode yB 4 = .ok (.iload_n 3, 1) := by decide +kernel
theorem d5 : decode yB 5 = .ok (.ifCond (.ne) 22, 3) := by decide +kernel
theorem d27 : decode yB 27 = .ok (.getstatic 38, 3) := by decide +kernel
theorem d30 : decode yB 30 = .ok (.ifCond (.eq) 28, 3) := by decide +kernel
theorem d33 : decode yB 33 = .ok (.aload_n 1, 1) := by decide +kernel
theorem d34 : decode yB 34 = .ok (.iload_n 2, 1) := by decide +kernel
theorem d35 : decode yB 35 = .ok (.iload_n 3, 1) := by decide +kernel
theorem d36 : decode yB 36 = .ok (.invokestatic 177, 3) := by decide +kernel
theorem d39 : decode yB 39 = .ok (.astore 5, 2) := by decide +kernel
theorem d41 : decode yB 41 = .ok (.aload_n 0, 1) := by decide +kernel
theorem d42 : decode yB 42 = .ok (.aload 5, 2) := by decide +kernel
theorem d44 : decode yB 44 = .ok (.iload_n 3, 1) := by decide +kernel
theorem d45 : decode yB 45 = .ok (.invokestatic 47, 3) := by decide +kernel
theorem d48 : decode yB 48 = .ok (.putfield 15, 3) := by decide +kernel
theorem d51 : decode yB 51 = .ok (.aload_n 0, 1) := by decide +kernel
theorem d52 : decode yB 52 = .ok (.aload 5, 2) := by decide +kernel
theorem d54 : decode yB 54 = .ok (.putfield 9, 3) := by decide +kernel
theorem d57 : decode yB 57 = .ok (.return_, 1) := by decide +kernel
def site : List Cond := [.fieldLink "java/lang/String" 38 "java/lang/String" "COMPACT_STRINGS" "Z", Cmp3.tab, CodL.tab, .laysFinal "java/lang/String" "java/lang/String" "value" "[B", .fieldLink "java/lang/String" 9 "java/lang/String" "value" "[B", .laysFinal "java/lang/String" "java/lang/String" "coder" "B", .fieldLink "java/lang/String" 15 "java/lang/String" "coder" "B"] ++ objW "java/lang/String" 1 ++ staticW "java/lang/String" 177 Cmp3.yN ++ staticW "java/lang/String" 47 CodL.yN
def tab : Cond := tabOf yN yB 6 none site
def P (a : Addr) (D : Cell) (fV fC : Field) (b : Addr) (A : Cell) (z : Int32) (o len : Nat) (args : Array Value) (s : State) : Prop := args = #[.ref a, .ref b, .int (Int32.ofNat o), .int (Int32.ofNat len), .null] ∧ Blank "java/lang/String" a D s ∧ Found "java/lang/String" "value" "[B" fV s ∧ Found "java/lang/String" "coder" "B" fC s ∧ Ch b A s ∧ StaticIs s "java/lang/String" "COMPACT_STRINGS" "Z" (.int z) ∧ ¬ z = 0 ∧ 0 < len ∧ o + len ≤ A.slots.size ∧ len ≤ 536870912 ∧ ∀ i, i < len → ¬ 255 < cv A (o + i)
def E (a : Addr) (D : Cell) (fV fC : Field) (A : Cell) (o len : Nat) (r : Option Value) (s u : State) : Prop := Got a D fV fC A o len r s u
/-- len > 0, no char of the range above 255: a Latin-1 String of their low bytes -/
theorem law (l : Launch) (a : Addr) (D : Cell) (fV fC : Field) (b : Addr) (A : Cell) (z : Int32) (o len : Nat) : Law l yN 5 4 2 35 yB 6 none site (P a D fV fC b A z o len) (E a D fV fC A o len) [⟨a, fC.slot⟩, ⟨a, fV.slot⟩] 1 len := by
  refine Law.of_walk (plainFor_of_name (by decide +kernel)) (by decide +kernel) (by decide +kernel) (by decide) (fun _ _ h => by rw [h.1]; rfl) (fun _ U U' hal hh h => ⟨h.1, h.2.1.mv hal hh, h.2.2.1.al hal, h.2.2.2.1.al hal, h.2.2.2.2.1.mv hal hh, h.2.2.2.2.2.1.there hal hh, h.2.2.2.2.2.2⟩) (fun r U U' V V' h1 hal h2 h => Got.mv r U U' V V' h1 hal h2 h) ?_
  intro p e s m args below meth c s₁ X0 hexec hbytes hml hret hlk hnm hown hh0 W hP
  obtain ⟨rfl, hB, f1, f2, hA, s1, hz, l0, l1, l2, hp⟩ := hP
  have a31 := hA.1.2.2.2
  have c1 : Steps p.tables e below (s₁.setTop (entryFrame m #[.ref a, .ref b, .int (Int32.ofNat o), .int (Int32.ofNat len), .null] 6)) (s₁.setTop (mkF m 0 #[.val (.ref a), .val (.ref b), .val (.int (Int32.ofNat o)), .val (.int (Int32.ofNat len)), .val .null, .unset] [])) := entry rfl
  have c2 : Steps p.tables e below (s₁.setTop (entryFrame m #[.ref a, .ref b, .int (Int32.ofNat o), .int (Int32.ofNat len), .null] 6)) (s₁.setTop (mkF m 1 #[.val (.ref a), .val (.ref b), .val (.int (Int32.ofNat o)), .val (.int (Int32.ofNat len)), .val .null, .unset] [.ref a])) := c1.trans (by
    refine XS.aloadN X0.here hexec rfl (hb hbytes d0) rfl rfl ?_
    exact Steps.refl _)
  obtain ⟨T3, X3, q3, st3⟩ := X0.oinit hexec hown (wks W (objW "java/lang/String" 1)) (g := (mkF m 1 #[.val (.ref a), .val (.ref b), .val (.int (Int32.ofNat o)), .val (.int (Int32.ofNat len)), .val .null, .unset] [.ref a])) rfl (by rw [hml]; rfl) (rest := []) rfl (hb hbytes d1) (W := 0) (by show 2 * 0 + 0 ≤ _; decide) (Nat.le_of_ble_eq_true rfl) (Nat.le_of_ble_eq_true rfl)
  have hh3 := q3.trans hh0
  have c4 : Steps p.tables e below (s₁.setTop (entryFrame m #[.ref a, .ref b, .int (Int32.ofNat o), .int (Int32.ofNat len), .null] 6)) (T3.setTop (mkF m 27 #[.val (.ref a), .val (.ref b), .val (.int (Int32.ofNat o)), .val (.int (Int32.ofNat len)), .val .null, .unset] [])) := (c2.trans (st3 _ (Steps.refl _))).trans (by
    refine XS.iloadN X3.here hexec rfl (hb hbytes d4) rfl ?_
    refine XS.ifYes X3.here hexec rfl (pc0 := 5) rfl (hb hbytes d5) rfl (i0_ne_t (nz32 (by omega) l0)) (by decide) rfl ?_
    exact Steps.refl _)
  obtain ⟨T5, X5, q5, st5⟩ := X3.sget hexec hown (wk W (.fieldLink "java/lang/String" 38 "java/lang/String" "COMPACT_STRINGS" "Z")) s1 (fun _ _ h => by rw [hh3]; exact h) (g := (mkF m 27 #[.val (.ref a), .val (.ref b), .val (.int (Int32.ofNat o)), .val (.int (Int32.ofNat len)), .val .null, .unset] [])) rfl (hb hbytes d27)
  have hh5 := q5.trans hh3
  have c6 : Steps p.tables e below (s₁.setTop (entryFrame m #[.ref a, .ref b, .int (Int32.ofNat o), .int (Int32.ofNat len), .null] 6)) (T5.setTop (mkF m 30 #[.val (.ref a), .val (.ref b), .val (.int (Int32.ofNat o)), .val (.int (Int32.ofNat len)), .val .null, .unset] [.int z])) := c4.trans (st5 _ (Steps.refl _))
  have c7 : Steps p.tables e below (s₁.setTop (entryFrame m #[.ref a, .ref b, .int (Int32.ofNat o), .int (Int32.ofNat len), .null] 6)) (T5.setTop (mkF m 36 #[.val (.ref a), .val (.ref b), .val (.int (Int32.ofNat o)), .val (.int (Int32.ofNat len)), .val .null, .unset] [.int (Int32.ofNat len), .int (Int32.ofNat o), .ref b])) := c6.trans (by
    refine XS.ifNo X5.here hexec rfl (hb hbytes d30) rfl (i0_eq_f hz) ?_
    refine XS.aloadN X5.here hexec rfl (hb hbytes d33) rfl rfl ?_
    refine XS.iloadN X5.here hexec rfl (hb hbytes d34) rfl ?_
    refine XS.iloadN X5.here hexec rfl (hb hbytes d35) rfl ?_
    exact Steps.refl _)
  obtain ⟨v8, T8, X8, E8, g8⟩ := X5.callS hexec (Cmp3.law l b A o len) hown (wks W (staticW "java/lang/String" 177 Cmp3.yN)) (wk W Cmp3.tab) (W := 0) (Nat.le_of_ble_eq_true rfl) (Nat.le_of_ble_eq_true rfl) (Nat.le_refl _) (by show 0 + len ≤ len; omega) (g := (mkF m 36 #[.val (.ref a), .val (.ref b), .val (.int (Int32.ofNat o)), .val (.int (Int32.ofNat len)), .val .null, .unset] [.int (Int32.ofNat len), .int (Int32.ofNat o), .ref b])) rfl (by rw [hml]; rfl) c7 (argsL := [.ref b, .int (Int32.ofNat o), .int (Int32.ofNat len)]) (rest := []) rfl rfl (by show 2 * 0 + 0 ≤ _; decide) (hb hbytes d36) (⟨rfl, hA.mv X5.warmed.alike hh5, l1, l2, hp⟩)
  obtain ⟨e8, z8⟩ := E8
  obtain ⟨rfl, N, n1, n2, n3, n4, n5, n6⟩ := NewArr.mv _ T5 s _ _ hh5.symm (Vm.Alike.refl _) rfl e8
  rw [hh5] at z8
  have hB1 := hB.keep X8.warmed.alike (n6 _ _ hB.1)
  have hne : s.heap.size ≠ a := (Nat.ne_of_lt (Array.getElem?_eq_some_iff.mp hB.1).1).symm
  have c9 : Steps p.tables e below (s₁.setTop (entryFrame m #[.ref a, .ref b, .int (Int32.ofNat o), .int (Int32.ofNat len), .null] 6)) (T8.setTop (mkF m 39 #[.val (.ref a), .val (.ref b), .val (.int (Int32.ofNat o)), .val (.int (Int32.ofNat len)), .val .null, .unset] [.ref s.heap.size])) := g8
  have c10 : Steps p.tables e below (s₁.setTop (entryFrame m #[.ref a, .ref b, .int (Int32.ofNat o), .int (Int32.ofNat len), .null] 6)) (T8.setTop (mkF m 45 #[.val (.ref a), .val (.ref b), .val (.int (Int32.ofNat o)), .val (.int (Int32.ofNat len)), .val .null, .val (.ref s.heap.size)] [.int (Int32.ofNat N.slots.size), .ref s.heap.size, .ref a])) := by
    have hc : Steps p.tables e below (s₁.setTop (entryFrame m #[.ref a, .ref b, .int (Int32.ofNat o), .int (Int32.ofNat len), .null] 6)) (T8.setTop (mkF m 45 #[.val (.ref a), .val (.ref b), .val (.int (Int32.ofNat o)), .val (.int (Int32.ofNat len)), .val .null, .val (.ref s.heap.size)] [.int (Int32.ofNat len), .ref s.heap.size, .ref a])) := c9.trans (by
      refine XS.astore X8.here hexec rfl (hb hbytes d39) rfl rfl rfl ?_
      refine XS.aloadN X8.here hexec rfl (hb hbytes d41) rfl rfl ?_
      refine XS.aload X8.here hexec rfl (hb hbytes d42) rfl rfl ?_
      refine XS.iloadN X8.here hexec rfl (hb hbytes d44) rfl ?_
      exact Steps.refl _)
    rw [n4]; exact hc
  obtain ⟨v11, T11, X11, E11, g11⟩ := X8.callS hexec (CodL.law l s.heap.size N) hown (wks W (staticW "java/lang/String" 47 CodL.yN)) (wk W CodL.tab) (W := 1) (Nat.le_of_ble_eq_true rfl) (Nat.le_of_ble_eq_true rfl) (Nat.le_refl _) (by show 0 + len + 0 ≤ len; omega) (g := (mkF m 45 #[.val (.ref a), .val (.ref b), .val (.int (Int32.ofNat o)), .val (.int (Int32.ofNat len)), .val .null, .val (.ref s.heap.size)] [.int (Int32.ofNat N.slots.size), .ref s.heap.size, .ref a])) rfl (by rw [hml]; rfl) c10 (argsL := [.ref s.heap.size, .int (Int32.ofNat N.slots.size)]) (rest := [.ref a]) rfl rfl (by show 2 * 0 + (1 + 0) ≤ _; decide) (hb hbytes d45) (⟨rfl, n1⟩)
  obtain ⟨rfl, q11⟩ := E11
  have hB11 := hB1.mv (X8.warmed.alike.symm.trans X11.warmed.alike) q11
  have c12 : Steps p.tables e below (s₁.setTop (entryFrame m #[.ref a, .ref b, .int (Int32.ofNat o), .int (Int32.ofNat len), .null] 6)) (T11.setTop (mkF m 48 #[.val (.ref a), .val (.ref b), .val (.int (Int32.ofNat o)), .val (.int (Int32.ofNat len)), .val .null, .val (.ref s.heap.size)] [.int 0, .ref a])) := g11
  obtain ⟨T13, X13, p13, bl13, sl13, st13⟩ := X11.finit hexec hown (wk W (.fieldLink "java/lang/String" 15 "java/lang/String" "coder" "B")) (Or.inr ⟨_, (wk W (.laysFinal "java/lang/String" "java/lang/String" "coder" "B"))⟩) (Or.inl ⟨rfl, hnm⟩) f2 (Or.inl rfl) hB11 (t := .byte) (by decide +kernel) rfl (g := (mkF m 48 #[.val (.ref a), .val (.ref b), .val (.int (Int32.ofNat o)), .val (.int (Int32.ofNat len)), .val .null, .val (.ref s.heap.size)] [.int 0, .ref a])) rfl (rest := []) rfl (hb hbytes d48)
  have c14 : Steps p.tables e below (s₁.setTop (entryFrame m #[.ref a, .ref b, .int (Int32.ofNat o), .int (Int32.ofNat len), .null] 6)) (T13.setTop (mkF m 54 #[.val (.ref a), .val (.ref b), .val (.int (Int32.ofNat o)), .val (.int (Int32.ofNat len)), .val .null, .val (.ref s.heap.size)] [.ref s.heap.size, .ref a])) := (c12.trans (st13 _ (Steps.refl _))).trans (by
    refine XS.aloadN X13.here hexec rfl (hb hbytes d51) rfl rfl ?_
    refine XS.aload X13.here hexec rfl (hb hbytes d52) rfl rfl ?_
    exact Steps.refl _)
  obtain ⟨T15, X15, p15, bl15, sl15, st15⟩ := X13.finit hexec hown (wk W (.fieldLink "java/lang/String" 9 "java/lang/String" "value" "[B")) (Or.inr ⟨_, (wk W (.laysFinal "java/lang/String" "java/lang/String" "value" "[B"))⟩) (Or.inl ⟨rfl, hnm⟩) f1 (Or.inl rfl) bl13 (t := (.array .byte)) (by decide +kernel) rfl (g := (mkF m 54 #[.val (.ref a), .val (.ref b), .val (.int (Int32.ofNat o)), .val (.int (Int32.ofNat len)), .val .null, .val (.ref s.heap.size)] [.ref s.heap.size, .ref a])) rfl (rest := []) rfl (hb hbytes d54)
  have c16 : Steps p.tables e below (s₁.setTop (entryFrame m #[.ref a, .ref b, .int (Int32.ofNat o), .int (Int32.ofNat len), .null] 6)) (T15.setTop (mkF m 57 #[.val (.ref a), .val (.ref b), .val (.int (Int32.ofNat o)), .val (.int (Int32.ofNat len)), .val .null, .val (.ref s.heap.size)] [])) := c14.trans (st15 _ (Steps.refl _))
  have ap := apart (Or.inr ⟨_, (wk W (.laysFinal "java/lang/String" "java/lang/String" "value" "[B"))⟩) (Or.inr ⟨_, (wk W (.laysFinal "java/lang/String" "java/lang/String" "coder" "B"))⟩) f1 f2 (t₁ := .array .byte) (t₂ := .byte) (by decide +kernel) (by decide +kernel) (by decide)
  have al := X8.warmed.alike.symm.trans X15.warmed.alike
  have n7 : T11.heap[s.heap.size]? = some N := by rw [q11]; exact n1.1
  exact ⟨T15, none, _, _, _, X15, by simp, rfl, by omega, (fun _ => rfl), ⟨rfl, _, N, bl15, ((Same.refl D _).set _ (by simp)).set _ (by simp), sl15, (Cell.slots_setSlot_ne _ ap).trans sl13, n1.keep al (p15.other hne (p13.other hne n7)), n2, by rw [al.findClass]; exact n3, n4, n5, fun y c h1 h2 => p15.other h1 (p13.other h1 (by rw [q11]; exact n6 y c h2)), by rw [p15.2.2, p13.2.2, q11]; exact z8⟩, fun fs hl => c16.trans (X15.returnOut hexec hret (hb hbytes d57) hl)⟩
end New4
namespace New1
def yN : MethodName := ⟨"java/lang/String", "<init>", "([C)V"⟩
abbrev yB : ByteArray := jdk_42_method_3_code
theorem d0 : decode yB 0 = .ok (.aload_n 0, 1) := by decide +kernel
theorem d1 : decode yB 1 = .ok (.aload_n 1, 1) := by decide +kernel
theorem d2 : decode yB 2 = .ok (.iconst 0, 1) := by decide +kernel
theorem d3 : decode yB 3 = .ok (.aload_n 1, 1) := by decide +kernel
theorem d4 : decode yB 4 = .ok (.arraylength, 1) := by decide +kernel
theorem d5 : decode yB 5 = .ok (.aconst_null, 1) := by decide +kernel
theorem d6 : decode yB 6 = .ok (.invokespecial 27, 3) := by decide +kernel
theorem d9 : decode yB 9 = .ok (.return_, 1) := by decide +kernel
def site : List Cond := [New4.tab] ++ initW "java/lang/String" 27 New4.yN
def tab : Cond := tabOf yN yB 2 none site
def P (a : Addr) (D : Cell) (fV fC : Field) (b : Addr) (A : Cell) (z : Int32) (args : Array Value) (s : State) : Prop := args = #[.ref a, .ref b] ∧ Blank "java/lang/String" a D s ∧ Found "java/lang/String" "value" "[B" fV s ∧ Found "java/lang/String" "coder" "B" fC s ∧ Ch b A s ∧ StaticIs s "java/lang/String" "COMPACT_STRINGS" "Z" (.int z) ∧ ¬ z = 0 ∧ 0 < A.slots.size ∧ A.slots.size ≤ 536870912 ∧ ∀ i, i < A.slots.size → ¬ 255 < cv A i
def E (a : Addr) (D : Cell) (fV fC : Field) (A : Cell) (r : Option Value) (s u : State) : Prop := Got a D fV fC A 0 A.slots.size r s u
/-- new String(chars), not empty, no char above 255: a Latin-1 String of their low bytes -/
theorem law (l : Launch) (a : Addr) (D : Cell) (fV fC : Field) (b : Addr) (A : Cell) (z : Int32) : Law l yN 2 1 3 52 yB 2 none site (P a D fV fC b A z) (E a D fV fC A) [⟨a, fC.slot⟩, ⟨a, fV.slot⟩] 1 A.slots.size := by
  refine Law.of_walk (plainFor_of_name (by decide +kernel)) (by decide +kernel) (by decide +kernel) (by decide) (fun _ _ h => by rw [h.1]; rfl) (fun _ U U' hal hh h => ⟨h.1, h.2.1.mv hal hh, h.2.2.1.al hal, h.2.2.2.1.al hal, h.2.2.2.2.1.mv hal hh, h.2.2.2.2.2.1.there hal hh, h.2.2.2.2.2.2⟩) (fun r U U' V V' h1 hal h2 h => Got.mv r U U' V V' h1 hal h2 h) ?_
  intro p e s m args below meth c s₁ X0 hexec hbytes hml hret hlk hnm hown hh0 W hP
  obtain ⟨rfl, hB, f1, f2, hA, s1, hz, l0, l2, hp⟩ := hP
  have c1 : Steps p.tables e below (s₁.setTop (entryFrame m #[.ref a, .ref b] 2)) (s₁.setTop (mkF m 0 #[.val (.ref a), .val (.ref b)] [])) := entry rfl
  have c2 : Steps p.tables e below (s₁.setTop (entryFrame m #[.ref a, .ref b] 2)) (s₁.setTop (mkF m 6 #[.val (.ref a), .val (.ref b)] [.null, .int (Int32.ofNat A.slots.size), .int 0, .ref b, .ref a])) := c1.trans (by
    refine XS.aloadN X0.here hexec rfl (hb hbytes d0) rfl rfl ?_
    refine XS.aloadN X0.here hexec rfl (hb hbytes d1) rfl rfl ?_
    refine iconstV X0.here hexec rfl 0 (hb hbytes d2) (by decide) ?_
    refine XS.aloadN X0.here hexec rfl (hb hbytes d3) rfl rfl ?_
    refine X0.alen hexec (hA.1.mv X0.warmed.alike hh0) rfl rfl (hb hbytes d4) ?_
    refine XS.aconstNull X0.here hexec rfl (hb hbytes d5) ?_
    exact Steps.refl _)
  obtain ⟨v3, T3, X3, E3, g3⟩ := X0.callN hexec (New4.law l a D fV fC b A z 0 A.slots.size) rfl hown (wks W (initW "java/lang/String" 27 New4.yN)) (W New4.tab (by simp only [site, List.mem_cons, List.mem_append, true_or, or_true])) (W := 0) (Nat.le_of_ble_eq_true rfl) (Nat.le_of_ble_eq_true rfl) (Nat.le_refl _) (by show 0 + A.slots.size ≤ A.slots.size; omega) (g := (mkF m 6 #[.val (.ref a), .val (.ref b)] [.null, .int (Int32.ofNat A.slots.size), .int (Int32.ofNat 0), .ref b, .ref a])) rfl (by rw [hml]; rfl) c2 (argsL := [.ref b, .int (Int32.ofNat 0), .int (Int32.ofNat A.slots.size), .null]) (rest := []) rfl rfl (by show 2 * 0 + 0 ≤ _; decide) (hb hbytes d6) (⟨rfl, hB.mv X0.warmed.alike hh0, f1.al X0.warmed.alike, f2.al X0.warmed.alike, hA.mv X0.warmed.alike hh0, s1.there X0.warmed.alike hh0, hz, l0, by omega, l2, fun i hi => by rw [Nat.zero_add]; exact hp i hi⟩)
  have e0 := Got.mv _ s₁ s _ _ hh0.symm (Vm.Alike.refl _) rfl E3
  obtain rfl := e0.1
  have c4 : Steps p.tables e below (s₁.setTop (entryFrame m #[.ref a, .ref b] 2)) (T3.setTop (mkF m 9 #[.val (.ref a), .val (.ref b)] [])) := g3
  exact ⟨T3, none, _, _, _, X3, by simp, rfl, by omega, (fun _ => rfl), e0, fun fs hl => c4.trans (X3.returnOut hexec hret (hb hbytes d9) hl)⟩
theorem pays {l : Launch} {R : Room} {p : Program} {e : Env} {below : List Frame} {s : State} {sargs : Array Value} {len W : Nat} (a : Addr) (D : Cell) (fV fC : Field) (b : Addr) (A : Cell) (z : Int32) (htab : tab.before sargs s = true) (hfr : 4 ≤ R.frames) (hlo : W + 65 ≤ R.locals) :
    Back l R p e below s sargs yN len W (fun A₁ a₁ => A₁.cells + 1 ≤ R.cells ∧ A₁.slots + A.slots.size ≤ R.slots ∧ P a D fV fC b A z a₁ A₁.U) (fun A₁ _ v₁ B₁ => E a D fV fC A v₁ A₁.U B₁.U ∧ B₁.locs = A₁.locs ++ [⟨a, fC.slot⟩, ⟨a, fV.slot⟩] ∧ B₁.cells = A₁.cells + 1 ∧ B₁.slots = A₁.slots + A.slots.size) :=
  (law l a D fV fC b A z).pays htab hfr (by omega)
end New1
/-- the byte, read back as charAt reads it, is the char -/
theorem lo8_mask {x : Int32} (h0 : ¬ x < 0) (h1 : ¬ 255 < x) : lo8 x &&& 255 = x := by
  have t : ∀ k : Fin 256, lo8 (Int32.ofNat k.val) &&& 255 = Int32.ofNat k.val := by decide +kernel
  rw [Int32.lt_iff_toInt_lt] at h0 h1
  have e0 : (0 : Int32).toInt = 0 := rfl
  have e1 : (255 : Int32).toInt = 255 := rfl
  obtain ⟨k, hk⟩ : ∃ k : Nat, x.toInt = k := ⟨x.toInt.toNat, by omega⟩
  have hx : x = Int32.ofNat k := Int32.toInt_inj.mp (by rw [hk, Int32.toInt_ofNat_small (by omega)])
  rw [hx]
  exact t ⟨k, by omega⟩
end StrChars
namespace StrChars.Road
open Jvm Sem ClassFile Op Lib Jvm.Stand Jvm.Free Jvm.Free.XT
open Jvm.Lib.Cold (StaticIs)
abbrev ST : String := "java/lang/String"
/-- every table word that New1's law asks, flat -/
abbrev words : List Jvm.Cond := [.code New1.yN New1.yB 2 none, .initialized ST, .methodLink ST 27 New4.yN, .instanceMethod New4.yN,
  .code New4.yN New4.yB 6 none, .fieldLink ST 38 ST "COMPACT_STRINGS" "Z", .laysFinal ST ST "value" "[B", .fieldLink ST 9 ST "value" "[B", .laysFinal ST ST "coder" "B", .fieldLink ST 15 ST "coder" "B",
  .methodLink ST 1 Lib.objectInit, .instanceMethod Lib.objectInit, .code Lib.objectInit ⟨#[0xb1]⟩ 1 none, .methodLink ST 177 Cmp3.yN, .static Cmp3.yN, .methodLink ST 47 CodL.yN, .static CodL.yN,
  .code Cmp3.yN Cmp3.yB 6 (some (.array .byte)), .initialized U16, .arrayClass .byte, .methodLink U16 115 Cmp5.yN, .static Cmp5.yN, .code Cmp5.yN Cmp5.yB 7 (some .int), .code CodL.yN CodL.yB 2 (some .byte)]
theorem tab_of {a : Array Value} {s : State} (h : ∀ w ∈ words, w.before a s = true) : New1.tab.before a s = true := by
  have h5 : Cmp5.tab.before a s = true := unparts (wk h (.code Cmp5.yN Cmp5.yB 7 (some .int))) (wks h (.initialized Cmp5.yN.cls :: Cmp5.site))
  have hc : CodL.tab.before a s = true := unparts (wk h (.code CodL.yN CodL.yB 2 (some .byte))) (wks h (.initialized CodL.yN.cls :: CodL.site))
  have q5 : ∀ w ∈ Cmp5.tab :: words, w.before a s = true := fun w hw => (List.mem_cons.mp hw).elim (fun e => e ▸ h5) (h w)
  have h3 : Cmp3.tab.before a s = true := unparts (wk q5 (.code Cmp3.yN Cmp3.yB 6 (some (.array .byte)))) (wks q5 (.initialized Cmp3.yN.cls :: Cmp3.site))
  have q3 : ∀ w ∈ Cmp3.tab :: CodL.tab :: words, w.before a s = true := fun w hw => (List.mem_cons.mp hw).elim (fun e => e ▸ h3) fun hw => (List.mem_cons.mp hw).elim (fun e => e ▸ hc) (h w)
  have h4 : New4.tab.before a s = true := unparts (wk q3 (.code New4.yN New4.yB 6 none)) (wks q3 (.initialized New4.yN.cls :: New4.site))
  have q4 : ∀ w ∈ New4.tab :: words, w.before a s = true := fun w hw => (List.mem_cons.mp hw).elim (fun e => e ▸ h4) (h w)
  exact unparts (wk q4 (.code New1.yN New1.yB 2 none)) (wks q4 (.initialized New1.yN.cls :: New1.site))
/-- the words ride from the start Z to the walk's own state -/
theorem moved {Z s : State} {a0 args : Array Value} (hZ : Z.Warmed39 s.vm) (hw : ∀ d ∈ words, d.before a0 Z = true) : ∀ d ∈ words, d.before args s = true := fun d hd => by
  have q := hw d hd
  have t : ∀ d ∈ words, d = .arrayClass .byte ∨ (d.onTables && d.keepsFace) = true := by decide +kernel
  rcases t d hd with rfl | t
  · exact RoadKit.mvA hZ q
  · exact RoadKit.mv hZ q t
/-- WHAT COMES BACK, over the tables of the start Z: h the heap at the call, h' behind it -/
def Q (Z : State) (x : Addr) (A : Cell) (h : Heap) (v : Option Value) (h' : Heap) (L : List Loc) : Prop := v = none ∧ (∀ y ∈ L, y.base = x) ∧ RoadKit.Keep h h' [x] ∧ h'.size = h.size + 1 ∧ RoadKit.Exa Z h' x ST ∧ RoadKit.Fld Z h' x ST "value" "[B" (.ref h.size) ∧ RoadKit.Fld Z h' x ST "coder" "B" (.int 0) ∧
  (∃ V : Cell, RoadKit.Arr Z h' h.size V .byte ∧ V.vm = .none ∧ Z.vm.findClass "[B" = some V.cls ∧ V.slots.size = A.slots.size ∧ ∀ j, j < A.slots.size → V.slots[j]? = some (.int (lo8 (cv A j)))) ∧
  ∀ (O n d : String) (w : Value), RoadKit.Fld Z h x O n d w → RoadKit.slotOf Z O n d ≠ RoadKit.slotOf Z ST "value" "[B" → RoadKit.slotOf Z O n d ≠ RoadKit.slotOf Z ST "coder" "B" → RoadKit.Fld Z h' x O n d w
/-- **new String(chars) AT A CALL, IN THE ROAD'S FORM**: for specialBack behind newO: x the fresh String, b the char[] with the cell A -/
theorem back {p : Program} {l : Launch} {e : Env} {R : Room} {s : State} {args : Array Value} {below : List Frame} {len W : Nat} {Z : State} {a0 : Array Value} {h : Heap} (hZ : Z.Warmed39 s.vm) (hw : ∀ d ∈ words, d.before a0 Z = true) {kI : Nat} (wi : (Jvm.Cond.instantiable ST kI).before a0 Z = true)
    {x b : Addr} {A : Cell} {z : Int32} {v0 c0 : Value} (E : RoadKit.Exa Z h x ST) (V : RoadKit.Fld Z h x ST "value" "[B" v0) (C : RoadKit.Fld Z h x ST "coder" "B" c0) (K : RoadKit.Arr Z h b A .char) (hty : Typed .char A) (S : RoadKit.Sta Z h ST "COMPACT_STRINGS" "Z" (.int z)) (hz : ¬ z = 0)
    (l0 : 0 < A.slots.size) (l2 : A.slots.size ≤ 536870912) (hp : ∀ i, i < A.slots.size → ¬ 255 < cv A i) (hfr : 4 ≤ R.frames) (hlo : W + 65 ≤ R.locals) :
    Back l R p e below s args New1.yN len W (fun P a => a = #[.ref x, .ref b] ∧ P.U.heap = h ∧ P.cells + 1 ≤ R.cells ∧ P.slots + A.slots.size ≤ R.slots)
      (fun P _ v B => ∃ L, Q Z x A h v B.U.heap L ∧ B.locs = P.locs ++ L ∧ B.cells = P.cells + 1 ∧ B.slots = P.slots + A.slots.size) := by
  intro m meth c P g ig mk a X hg hsize hdg hW hn hp'
  obtain ⟨rfl, rfl, r1, r2⟩ := hp'
  have al : Z.vm.Alike P.U.vm := hZ.alike.trans X.warmed.alike
  obtain ⟨D, cfV, kV, iV, fV, hD, gV, stV, knV, obV, asV, slV⟩ := id V
  obtain ⟨D', cfC, kC, iC, fC, hD', gC, stC, -, -, asC, slC⟩ := id C
  cases hD.symm.trans hD'
  obtain ⟨D2, kD, e1, e2, e3, e4, e5⟩ := id E
  cases hD.symm.trans e1
  obtain ⟨c2, k2, i1, i2, i3, -⟩ := Cond.instantiable_spec wi
  cases e2.symm.trans i1
  cases e3.symm.trans i2
  obtain ⟨kU, u1, u2⟩ := al.2.2 _ _ e3
  have hB : Blank ST x D P.U := ⟨hD, ⟨knV, fun q hq => by rw [hq] at obV; cases obV⟩, by rw [al.findClass]; exact e2, kU, u1, by rw [u2]; exact i3, by rw [u2]; exact e5 i3⟩
  have F1 : Found ST "value" "[B" fV P.U := ⟨SBG.found_only al ⟨cfV, kV, iV, gV⟩, stV⟩
  have F2 : Found ST "coder" "B" fC P.U := ⟨SBG.found_only al ⟨cfC, kC, iC, gC⟩, stC⟩
  have hA : Ch b A P.U := ⟨⟨K.1, State.isArrayOf_alike al K.2.1, K.2.2, by omega⟩, hty⟩
  have hS : StaticIs P.U ST "COMPACT_STRINGS" "Z" (.int z) := by
    obtain ⟨cfS, iS, kS, fS, st, cS, t1, t2, t3, t4, t5, t6, t7⟩ := S
    exact StaticIs.there (s := { Z with heap := P.U.heap }) ⟨cfS, iS, kS, fS, st, cS, t1, t2, t3, t4, t5, (fun q => by rw [q] at t6; cases t6), t7⟩ al rfl
  obtain ⟨v, B, X', ⟨⟨hv, E', V', q1, q2, q3, q4, q5, q6, q7, q8, q9, q10, q11⟩, hl, hc, hs⟩, st⟩ := New1.pays x D fV fC b A z (tab_of (moved hZ hw)) hfr hlo m meth c P g ig mk _ X hg hsize hdg hW hn ⟨r1, r2, rfl, hB, F1, F2, hA, hS, hz, l0, l2, hp⟩
  have al' : Z.vm.Alike B.U.vm := hZ.alike.trans X'.warmed.alike
  have hsz : E'.slots.size = D.slots.size := by
    obtain ⟨-, -, -, kB, w1, w2, w3⟩ := q1
    obtain ⟨kB', y1, y2⟩ := al'.2.2 _ _ e3
    rw [q2.2.1] at w1
    cases w1.symm.trans y1
    rw [w3, e5 i3, y2]
  refine ⟨v, B, X', ⟨_, ⟨hv, ?_, ⟨by omega, fun y cy hy hn' => q10 y cy (by simpa using hn') hy, fun y cy hy => ?_⟩, q11, ⟨E', _, q1.1, by rw [q2.2.1]; exact e2, by rw [q2.2.1]; exact e3, by rw [q2.1]; exact obV, fun _ => by rw [hsz]; exact e5 i3⟩,
    ⟨E', cfV, kV, iV, fV, q1.1, gV, stV, by rw [q2.1]; exact knV, by rw [q2.1]; exact obV, by rw [q2.2.1]; exact asV, q3⟩, ⟨E', cfC, kC, iC, fC, q1.1, gC, stC, by rw [q2.1]; exact knV, by rw [q2.1]; exact obV, by rw [q2.2.1]; exact asC, q4⟩,
    ⟨V', ⟨q5.1, State.isArrayOf_alike al'.symm q5.2.1, q5.2.2.1⟩, q6, by rw [← al'.findClass]; exact q7, q8, fun j hj => by have := q9 j hj; rwa [Nat.zero_add] at this⟩, fun O n d w F n1 n2 => ?_⟩, hl, hc, hs⟩, st⟩
  · intro y hy
    simp only [List.mem_cons, List.not_mem_nil, or_false] at hy
    rcases hy with rfl | rfl <;> rfl
  · by_cases q : y = x
    · subst q
      cases hD.symm.trans hy
      exact ⟨E', q1.1, q2.2.1, q2.1, hsz⟩
    · exact ⟨cy, q10 y cy q hy, rfl, rfl, rfl⟩
  · obtain ⟨D3, cf, k, i, f, g1, g2, g3, g4, g5, g6, g7⟩ := F
    cases hD.symm.trans g1
    simp only [RoadKit.slotOf, g2, gV, gC, Option.map_some, Option.getD_some] at n1 n2
    exact ⟨E', cf, k, i, f, q1.1, g2, g3, by rw [q2.1]; exact g4, by rw [q2.1]; exact g5, by rw [q2.2.1]; exact g6, by rw [q2.2.2 f.slot (by simp [n1, n2])]; exact g7⟩
end StrChars.Road
namespace StrChars.Road
open Jvm Sem ClassFile Op Lib Jvm.Stand Jvm.Free Jvm.Free.XT
/-- WHAT COMES BACK, the byte[] as a list of values -/
def QA (Z : State) (x : Addr) (zn : Int32) (cs : List Int32) (h : Heap) (v : Option Value) (h' : Heap) (L : List Loc) : Prop := v = none ∧ (∀ y ∈ L, y.base = x) ∧ RoadKit.Keep h h' [x] ∧ h'.size = h.size + 1 ∧ RoadKit.Exa Z h' x ST ∧ RoadKit.Fld Z h' x ST "value" "[B" (.ref h.size) ∧ RoadKit.Fld Z h' x ST "coder" "B" (.int 0) ∧
  (∃ kb, Z.vm.findClass "[B" = some kb ∧ RoadKit.Arv Z h' h.size kb .byte zn (cs.map fun c => .int (lo8 c)) (.int 0)) ∧
  ∀ (O n d : String) (w : Value), RoadKit.Fld Z h x O n d w → RoadKit.slotOf Z O n d ≠ RoadKit.slotOf Z ST "value" "[B" → RoadKit.slotOf Z O n d ≠ RoadKit.slotOf Z ST "coder" "B" → RoadKit.Fld Z h' x O n d w
/-- **new String(chars) AT A CALL, THE ARRAYS AS LISTS**: the char[] at b holds cs, not empty, no char above 255 -/
theorem backArv {p : Program} {l : Launch} {e : Env} {R : Room} {s : State} {args : Array Value} {below : List Frame} {len W : Nat} {Z : State} {a0 : Array Value} {h : Heap} (hZ : Z.Warmed39 s.vm) (hw : ∀ d ∈ words, d.before a0 Z = true) {kI : Nat} (wi : (Jvm.Cond.instantiable ST kI).before a0 Z = true)
    {x b : Addr} {k : ClassId} {zn z : Int32} {cs : List Int32} {dv v0 c0 : Value} (E : RoadKit.Exa Z h x ST) (V : RoadKit.Fld Z h x ST "value" "[B" v0) (C : RoadKit.Fld Z h x ST "coder" "B" c0) (K : RoadKit.Arv Z h b k .char zn (cs.map Value.int) dv) (S : RoadKit.Sta Z h ST "COMPACT_STRINGS" "Z" (.int z)) (hz : ¬ z = 0)
    (hlen : zn.toNatClampNeg = cs.length) (h0 : 0 < cs.length) (hbig : cs.length ≤ 536870912) (hall : ∀ c ∈ cs, ¬ 255 < c) (hfr : 4 ≤ R.frames) (hlo : W + 65 ≤ R.locals) :
    Back l R p e below s args New1.yN len W (fun P a => a = #[.ref x, .ref b] ∧ P.U.heap = h ∧ P.cells + 1 ≤ R.cells ∧ P.slots + cs.length ≤ R.slots)
      (fun P _ v B => ∃ L, QA Z x zn cs h v B.U.heap L ∧ B.locs = P.locs ++ L ∧ B.cells = P.cells + 1 ∧ B.slots = P.slots + cs.length) := by
  obtain ⟨A, K1, K2, K3, K4, K5, K6⟩ := K
  have e : A.slots.size = cs.length := K3.trans hlen
  have hat : ∀ (i : Nat) (hi : i < cs.length), A.slots[i]? = some (.int cs[i]) := fun i hi => by rw [K5 i (by omega)]; simp [List.getD_eq_getElem?_getD, hi]
  have hcv : ∀ (i : Nat) (hi : i < cs.length), cv A i = cs[i] := fun i hi => by unfold cv; rw [hat i hi]
  have hty : Typed .char A := fun i v hv => by
    have hi : i < A.slots.size := (Array.getElem?_eq_some_iff.mp hv).1
    have q := K5 i hi
    rw [hv] at q
    rw [Option.some.inj q]
    exact K6 i hi
  refine Back.mono (back hZ hw wi E V C K1 hty S hz (by omega) (by omega) (fun i hi => by rw [hcv i (by omega)]; exact hall _ (List.getElem_mem _)) hfr hlo) (fun P a hp => ⟨hp.1, hp.2.1, hp.2.2.1, by rw [e]; exact hp.2.2.2⟩) (fun P a v B hp hq => ?_)
  obtain ⟨L, ⟨q1, q2, q3, q4, q5, q6, q7, ⟨V', v1, v2, v3, v4, v5⟩, q9⟩, hl, hc, hs⟩ := hq
  refine ⟨L, ⟨q1, q2, q3, q4, q5, q6, q7, ⟨V'.cls, v3, V', v1, rfl, by rw [v4, e, hlen], K4, fun i hi => ?_, fun i hi => ?_⟩, q9⟩, hl, hc, by rw [hs, e]⟩
  · have hi' : i < cs.length := by omega
    rw [v5 i (by omega), hcv i hi']; simp [List.getD_eq_getElem?_getD, hi']
  · have hi' : i < cs.length := by omega
    simp only [List.getD_eq_getElem?_getD, List.getElem?_map, List.getElem?_eq_getElem hi', Option.map_some, Option.getD_some]
    exact fits_lo8 _
end StrChars.Road
namespace StrChars.Road
open Jvm Sem ClassFile Op Lib Jvm.Stand Jvm.Free Jvm.Free.XT
/-- WHAT COMES BACK, in the writer's own shape -/
def QV (Z : State) (x : Addr) (N : Int32) (bs : List Int32) (h : Heap) (n0 : Nat) (v : Option Value) (h' : Heap) (L : List Loc) : Prop := v = none ∧ RoadKit.Fr n0 L ∧ RoadKit.Keep h h' [x] ∧ RoadKit.Exa Z h' x ST ∧ RoadKit.Fld Z h' x ST "coder" "B" (.int 0) ∧
  ∃ (t : Addr) (kb : ClassId), n0 ≤ t ∧ h.size ≤ t ∧ ¬ t = x ∧ RoadKit.Fld Z h' x ST "value" "[B" (.ref t) ∧ RoadKit.Arv Z h' t kb .byte N (bs.map Value.int) (.int 0)
/-- **new String(chars) AT A CALL, FOR THE WRITER**: a char[] of n known ints, each 0 to 255 -/
theorem backV {p : Program} {l : Launch} {e : Env} {R : Room} {s : State} {args : Array Value} {below : List Frame} {len W : Nat} {Z : State} {a0 : Array Value} {h : Heap} (hZ : Z.Warmed39 s.vm) (hw : ∀ d ∈ words, d.before a0 Z = true) {kI : Nat} (wi : (Jvm.Cond.instantiable ST kI).before a0 Z = true)
    {x b : Addr} {kC : ClassId} {cs bs : List Int32} {d v0 c0 : Value} {z N : Int32} {n n0 : Nat} (hx0 : n0 ≤ x) (hh0 : n0 ≤ h.size) (E : RoadKit.Exa Z h x ST) (V : RoadKit.Fld Z h x ST "value" "[B" v0) (C : RoadKit.Fld Z h x ST "coder" "B" c0) (K : RoadKit.Arv Z h b kC .char N (cs.map Value.int) d) (S : RoadKit.Sta Z h ST "COMPACT_STRINGS" "Z" (.int z)) (hz : ¬ z = 0)
    (hn : cs.length = n) (hN : N = Int32.ofNat n) (l0 : 0 < n) (l2 : n ≤ 4000) (hp : ∀ c ∈ cs, ¬ c < 0 ∧ ¬ (255 : Int32) < c) (hb : bs = cs.map (fun c => c.toInt8.toInt32)) (hfr : 4 ≤ R.frames) (hlo : W + 65 ≤ R.locals) :
    Back l R p e below s args (⟨"java/lang/String", "<init>", "([C)V"⟩ : MethodName) len W (fun P a => a = #[.ref x, .ref b] ∧ P.U.heap = h ∧ P.cells + 1 ≤ R.cells ∧ P.slots + n ≤ R.slots)
      (fun P _ v B => ∃ L, QV Z x N bs h n0 v B.U.heap L ∧ B.locs = P.locs ++ L ∧ B.cells = P.cells + 1 ∧ B.slots = P.slots + n) := by
  subst hn hN hb
  refine Back.mono (backArv hZ hw wi E V C K S hz (n32 (by omega)) l0 (by omega) (fun c hc => (hp c hc).2) hfr hlo) (fun P a hp => hp) (fun P a v B hp hq => ?_)
  obtain ⟨L, ⟨q1, q2, q3, q4, q5, q6, q7, ⟨kb, v1, v2⟩, q9⟩, hl, hc, hs⟩ := hq
  exact ⟨L, ⟨q1, fun y hy => by rw [q2 y hy]; exact hx0, q3, q5, q7, h.size, kb, hh0, Nat.le_refl _, Nat.ne_of_gt E.lt, q6, by rw [List.map_map]; exact v2⟩, hl, hc, hs⟩
end StrChars.Road
namespace StrChars
open Jvm Sem ClassFile Op Lib Jvm.Stand Jvm.Free.XT Jvm.Free.ALB Jvm.Free.JM Jvm.Free
open Jvm.Lib.Cold (StaticIs)
def hi8 (x : Int32) : Int32 := lo8 (x >>> ((8 : Int32) &&& 31))
/-- what StringUTF16.getChar makes of two bytes -/
def pairCh (u v : Int32) : Int32 := (((u &&& 255) <<< ((0 : Int32) &&& 31)) ||| ((v &&& 255) <<< ((8 : Int32) &&& 31))).toUInt32.toUInt16.toUInt32.toInt32
theorem shr0 (c : Int32) : c >>> ((0 : Int32) &&& 31) = c := by
  have e : ((0 : Int32) &&& 31) = 0 := by decide
  rw [e]
  apply Int32.toBitVec_inj.mp
  rw [Int32.toBitVec_shiftRight]
  have e1 : ((0 : Int32).toBitVec.smod 32) = 0#32 := by decide
  rw [e1, BitVec.sshiftRight_eq']
  exact BitVec.sshiftRight_zero
theorem lo8_and (x : Int32) : (lo8 x &&& 255).toBitVec.toNat = x.toBitVec.toNat % 256 := by
  have h : (lo8 x).toBitVec = (x.toBitVec.signExtend 8).signExtend 32 := by rw [lo8, Int8.toBitVec_toInt32, Int32.toBitVec_toInt8]
  rw [Int32.toBitVec_and, BitVec.toNat_and, h]
  have e : ((x.toBitVec.signExtend 8).signExtend 32).toNat % 256 = x.toBitVec.toNat % 256 := by
    rw [BitVec.toNat_signExtend]
    have hlt := x.toBitVec.isLt
    simp only [BitVec.toNat_setWidth, BitVec.toNat_signExtend]
    split <;> split <;> omega
  rw [← e]
  exact Nat.and_two_pow_sub_one_eq_mod _ 8
theorem pair_says {c : Int32} (h0 : ¬ c < 0) (h1 : ¬ 65535 < c) : pairCh (lo8 c) (hi8 c) = c := by
  rw [Int32.lt_iff_toInt_lt] at h0 h1
  have e0 : (0 : Int32).toInt = 0 := rfl
  have e1 : (65535 : Int32).toInt = 65535 := rfl
  have hc : c.toInt = c.toBitVec.toNat := by
    have := c.toBitVec.isLt
    have e : c.toInt = c.toBitVec.toInt := rfl
    rw [e] at h0 h1
    rw [e]
    rw [BitVec.toInt_eq_toNat_cond] at h0 h1 ⊢
    split at h0 <;> split <;> omega
  have hn : c.toBitVec.toNat < 65536 := by omega
  have a1 := lo8_and c
  have a2 : (hi8 c &&& 255).toBitVec.toNat = c.toBitVec.toNat / 256 := by
    rw [hi8, lo8_and]
    have e : ((8 : Int32) &&& 31) = 8 := by decide
    rw [e, Int32.toBitVec_shiftRight]
    have e2 : ((8 : Int32).toBitVec.smod 32) = 8#32 := by decide
    rw [e2, BitVec.sshiftRight_eq', BitVec.toNat_sshiftRight_of_msb_false (by rw [BitVec.msb_eq_false_iff_two_mul_lt]; omega)]
    show c.toBitVec.toNat >>> 8 % 256 = _
    rw [Nat.shiftRight_eq_div_pow]
    omega
  unfold pairCh
  apply Int32.toBitVec_inj.mp
  apply BitVec.eq_of_toNat_eq
  have f0 : ((0 : Int32) &&& 31) = 0 := by decide
  have f8 : ((8 : Int32) &&& 31) = 8 := by decide
  rw [f0, f8]
  have g : (((lo8 c &&& 255) <<< (0 : Int32)) ||| ((hi8 c &&& 255) <<< (8 : Int32))).toBitVec.toNat = c.toBitVec.toNat := by
    rw [Int32.toBitVec_or, Int32.toBitVec_shiftLeft, Int32.toBitVec_shiftLeft]
    have s0 : ((0 : Int32).toBitVec.smod 32) = 0#32 := by decide
    have s8 : ((8 : Int32).toBitVec.smod 32) = 8#32 := by decide
    rw [s0, s8, BitVec.toNat_or]
    simp only [BitVec.shiftLeft_eq', BitVec.toNat_shiftLeft, a1, a2]
    show (c.toBitVec.toNat % 256) <<< 0 % 2 ^ 32 ||| (c.toBitVec.toNat / 256) <<< 8 % 2 ^ 32 = _
    rw [Nat.shiftLeft_zero, Nat.mod_eq_of_lt (show c.toBitVec.toNat % 256 < 2 ^ 32 by omega), Nat.mod_eq_of_lt (show (c.toBitVec.toNat / 256) <<< 8 < 2 ^ 32 by rw [Nat.shiftLeft_eq]; omega), Nat.or_comm, ← Nat.shiftLeft_add_eq_or_of_lt (by omega), Nat.shiftLeft_eq]
    omega
  show BitVec.toNat (((((lo8 c &&& 255) <<< (0 : Int32)) ||| ((hi8 c &&& 255) <<< (8 : Int32))).toBitVec.setWidth 16).setWidth 32) = _
  rw [BitVec.toNat_setWidth, BitVec.toNat_setWidth, g]
  omega
end StrChars
namespace StrChars
open Jvm Sem ClassFile Op Lib Jvm.Stand Jvm.Free.XT Jvm.Free.ALB Jvm.Free.JM Jvm.Free
open Jvm.Lib.Cold (StaticIs)
theorem shr1 {n : Nat} (h : 2 * n < 2 ^ 31) : Int32.ofNat (2 * n) >>> ((1 : Int32) &&& 31) = Int32.ofNat n := by
  have e : ((1 : Int32) &&& 31) = 1 := by decide
  rw [e]
  apply Int32.toBitVec_inj.mp
  rw [Int32.toBitVec_shiftRight]
  have e1 : ((1 : Int32).toBitVec.smod 32) = 1#32 := by decide
  have hm : (BitVec.ofNat 32 (2 * n)).toNat = 2 * n := by rw [BitVec.toNat_ofNat, Nat.mod_eq_of_lt (by omega)]
  rw [e1, BitVec.sshiftRight_eq']
  apply BitVec.eq_of_toNat_eq
  show ((BitVec.ofNat 32 (2 * n)).sshiftRight 1).toNat = (BitVec.ofNat 32 n).toNat
  rw [BitVec.toNat_sshiftRight_of_msb_false (by rw [BitVec.msb_eq_false_iff_two_mul_lt, hm]; omega), hm, BitVec.toNat_ofNat, Nat.shiftRight_eq_div_pow]
  omega
/-- charAt's cast of a byte read back -/
def chr8 (u : Int32) : Int32 := (u &&& 255).toUInt32.toUInt16.toUInt32.toInt32
theorem chr8_lo8 {c : Int32} (h0 : ¬ c < 0) (h1 : ¬ 255 < c) : chr8 (lo8 c) = c := by
  have t : ∀ k : Fin 256, (Int32.ofNat k.val).toUInt32.toUInt16.toUInt32.toInt32 = Int32.ofNat k.val := by decide +kernel
  unfold chr8
  rw [lo8_mask h0 h1]
  rw [Int32.lt_iff_toInt_lt] at h0 h1
  have e0 : (0 : Int32).toInt = 0 := rfl
  have e1 : (255 : Int32).toInt = 255 := rfl
  obtain ⟨k, hk⟩ : ∃ k : Nat, c.toInt = k := ⟨c.toInt.toNat, by omega⟩
  have hx : c = Int32.ofNat k := Int32.toInt_inj.mp (by rw [hk, Int32.toInt_ofNat_small (by omega)])
  rw [hx]
  exact t ⟨k, by omega⟩
theorem narrow_ch {c : Int32} (h0 : ¬ c < 0) (h1 : ¬ 65535 < c) : narrow .char (.int c) = .int c := by
  have q : narrow .char (.int (pairCh (lo8 c) (hi8 c))) = .int (pairCh (lo8 c) (hi8 c)) := narrow_c _
  rwa [pair_says h0 h1] at q
/-- the array's cell V codes the n chars f 0 .. f (n - 1) by the coder cd, as the JDK does: coder 1 just where some char is above 255 -/
def Cod (cd : Int32) (n : Nat) (f : Nat → Int32) (V : Cell) : Prop := (cd = 0 ∧ V.slots.size = n ∧ ∀ j, j < n → V.slots[j]? = some (.int (lo8 (f j))) ∧ ¬ 255 < f j) ∨ (cd = 1 ∧ V.slots.size = 2 * n ∧ (∀ j, j < n → V.slots[2 * j]? = some (.int (lo8 (f j))) ∧ V.slots[2 * j + 1]? = some (.int (hi8 (f j)))) ∧ ∃ j, j < n ∧ 255 < f j)
theorem Cod.cd {cd : Int32} {n : Nat} {f : Nat → Int32} {V : Cell} (h : Cod cd n f V) : cd = 0 ∨ cd = 1 := h.imp (fun q => q.1) fun q => q.1
theorem Cod.len {cd : Int32} {n : Nat} {f : Nat → Int32} {V : Cell} (h : Cod cd n f V) (hs : V.slots.size < 2 ^ 31) : Int32.ofNat V.slots.size >>> (cd &&& 31) = Int32.ofNat n := by
  rcases h with ⟨rfl, h, -⟩ | ⟨rfl, h, -⟩
  · rw [shr0, h]
  · rw [h, shr1 (by omega)]
/-- **x is a String of the n chars f 0 .. f (n - 1)**, Latin-1 or UTF-16; its array at t has the cell V -/
def Txt (x t : Addr) (V : Cell) (cd : Int32) (n : Nat) (f : Nat → Int32) (U : State) : Prop := Exact "java/lang/String" x U ∧ Has x "java/lang/String" "value" "[B" (.ref t) U ∧ Has x "java/lang/String" "coder" "B" (.int cd) U ∧ XT.Arr .byte t V U ∧ Cod cd n f V ∧ ∀ j, j < n → ¬ f j < 0 ∧ ¬ 65535 < f j
theorem Txt.mv {x t : Addr} {V : Cell} {cd : Int32} {n : Nat} {f : Nat → Int32} {U U' : State} (h : Txt x t V cd n f U) (hal : U.vm.Alike U'.vm) (hh : U'.heap = U.heap) : Txt x t V cd n f U' := ⟨h.1.mv hal hh, h.2.1.mv hal hh, h.2.2.1.mv hal hh, h.2.2.2.1.mv hal hh, h.2.2.2.2⟩
namespace Cdr
def yN : MethodName := ⟨"java/lang/String", "coder", "()B"⟩
abbrev yB : ByteArray := jdk_42_method_152_code
theorem d0 : decode yB 0 = .ok (.getstatic 38, 3) := by decide +kernel
theorem d3 : decode yB 3 = .ok (.ifCond (.eq) 10, 3) := by decide +kernel
theorem d6 : decode yB 6 = .ok (.aload_n 0, 1) := by decide +kernel
theorem d7 : decode yB 7 = .ok (.getfield 15, 3) := by decide +kernel
theorem d10 : decode yB 10 = .ok (.goto 4, 3) := by decide +kernel
theorem d14 : decode yB 14 = .ok (.ireturn, 1) := by decide +kernel
def site : List Cond := [.fieldLink "java/lang/String" 38 "java/lang/String" "COMPACT_STRINGS" "Z", .fieldLink "java/lang/String" 15 "java/lang/String" "coder" "B"]
def tab : Cond := tabOf yN yB 1 (some .byte) site
def P (x : Addr) (cd z : Int32) (args : Array Value) (s : State) : Prop := args = #[.ref x] ∧ Has x "java/lang/String" "coder" "B" (.int cd) s ∧ (cd = 0 ∨ cd = 1) ∧ StaticIs s "java/lang/String" "COMPACT_STRINGS" "Z" (.int z) ∧ ¬ z = 0
def E (cd : Int32) (r : Option Value) (s u : State) : Prop := XT.PureE (some (.int cd)) r s u
theorem law (l : Launch) (x : Addr) (cd z : Int32) : Law l yN 1 0 0 0 yB 1 (some .byte) site (P x cd z) (E cd) [] 0 0 := by
  refine Law.of_walk (plainFor_of_name (by decide +kernel)) (by decide +kernel) (by decide +kernel) (by decide) (fun _ _ h => by rw [h.1]; rfl) (fun _ U U' hal hh h => ⟨h.1, h.2.1.mv hal hh, h.2.2.1, h.2.2.2.1.there hal hh, h.2.2.2.2⟩) (fun r U U' V V' h1 hal h2 h => XT.PureE.mv r U U' V V' h1 hal h2 h) ?_
  intro p e s m args below meth c s₁ X0 hexec hbytes hml hret hlk hnm hown hh0 W hP
  obtain ⟨rfl, hx, hc, s1, hz⟩ := hP
  have c1 : Steps p.tables e below (s₁.setTop (entryFrame m #[.ref x] 1)) (s₁.setTop (mkF m 0 #[.val (.ref x)] [])) := entry rfl
  obtain ⟨T2, X2, q2, st2⟩ := X0.sget hexec hown (wk W (.fieldLink "java/lang/String" 38 "java/lang/String" "COMPACT_STRINGS" "Z")) s1 (fun _ _ h => by rw [hh0]; exact h) (g := (mkF m 0 #[.val (.ref x)] [])) rfl (hb hbytes d0)
  have hh2 := q2.trans hh0
  have c3 : Steps p.tables e below (s₁.setTop (entryFrame m #[.ref x] 1)) (T2.setTop (mkF m 7 #[.val (.ref x)] [.ref x])) := (c1.trans (st2 _ (Steps.refl _))).trans (by
    refine XS.ifNo X2.here hexec rfl (hb hbytes d3) rfl (i0_eq_f hz) ?_
    refine XS.aloadN X2.here hexec rfl (hb hbytes d6) rfl rfl ?_
    exact Steps.refl _)
  obtain ⟨T4, X4, q4, st4⟩ := X2.hget hexec hown (wk W (.fieldLink "java/lang/String" 15 "java/lang/String" "coder" "B")) (hx.mv X2.warmed.alike hh2) (g := (mkF m 7 #[.val (.ref x)] [.ref x])) rfl (rest := []) rfl (hb hbytes d7)
  have c5 : Steps p.tables e below (s₁.setTop (entryFrame m #[.ref x] 1)) (T4.setTop (mkF m 14 #[.val (.ref x)] [.int cd])) := (c3.trans (st4 _ (Steps.refl _))).trans (by
    refine XS.goto X4.here hexec rfl (pc0 := 10) rfl (hb hbytes d10) (by decide) rfl ?_
    exact Steps.refl _)
  exact ⟨T4, some (.int cd), _, _, _, X4, rfl, rfl, rfl, (fun h => by cases h), ⟨rfl, q4.trans hh2⟩, fun fs hl => c5.trans (X4.ireturnOut hexec hret (by rcases hc with rfl | rfl <;> rfl) (Or.inr (Or.inr (Or.inl rfl))) (hb hbytes d14) hl)⟩
end Cdr
namespace Len
def yN : MethodName := ⟨"java/lang/String", "length", "()I"⟩
abbrev yB : ByteArray := jdk_42_method_54_code
theorem d0 : decode yB 0 = .ok (.aload_n 0, 1) := by decide +kernel
theorem d1 : decode yB 1 = .ok (.getfield 9, 3) := by decide +kernel
theorem d4 : decode yB 4 = .ok (.arraylength, 1) := by decide +kernel
theorem d5 : decode yB 5 = .ok (.aload_n 0, 1) := by decide +kernel
theorem d6 : decode yB 6 = .ok (.invokevirtual 335, 3) := by decide +kernel
theorem d9 : decode yB 9 = .ok (.ishr, 1) := by decide +kernel
theorem d10 : decode yB 10 = .ok (.ireturn, 1) := by decide +kernel
def site : List Cond := [.fieldLink "java/lang/String" 9 "java/lang/String" "value" "[B", Cdr.tab] ++ virtW "java/lang/String" 335 "java/lang/String" Cdr.yN Cdr.yN
def tab : Cond := tabOf yN yB 1 (some .int) site
def P (x t : Addr) (V : Cell) (cd : Int32) (n : Nat) (f : Nat → Int32) (z : Int32) (args : Array Value) (s : State) : Prop := args = #[.ref x] ∧ Txt x t V cd n f s ∧ StaticIs s "java/lang/String" "COMPACT_STRINGS" "Z" (.int z) ∧ ¬ z = 0
def E (n : Nat) (r : Option Value) (s u : State) : Prop := XT.PureE (some (.int (Int32.ofNat n))) r s u
/-- length() of a String of n chars, in either coding -/
theorem law (l : Launch) (x t : Addr) (V : Cell) (cd : Int32) (n : Nat) (f : Nat → Int32) (z : Int32) : Law l yN 1 0 1 13 yB 1 (some .int) site (P x t V cd n f z) (E n) [] 0 0 := by
  refine Law.of_walk (plainFor_of_name (by decide +kernel)) (by decide +kernel) (by decide +kernel) (by decide) (fun _ _ h => by rw [h.1]; rfl) (fun _ U U' hal hh h => ⟨h.1, h.2.1.mv hal hh, h.2.2.1.there hal hh, h.2.2.2⟩) (fun r U U' V V' h1 hal h2 h => XT.PureE.mv r U U' V V' h1 hal h2 h) ?_
  intro p e s m args below meth c s₁ X0 hexec hbytes hml hret hlk hnm hown hh0 W hP
  obtain ⟨rfl, hx, s1, hz⟩ := hP
  have v31 := hx.2.2.2.1.2.2.2
  have c1 : Steps p.tables e below (s₁.setTop (entryFrame m #[.ref x] 1)) (s₁.setTop (mkF m 1 #[.val (.ref x)] [.ref x])) := Steps.trans (entry rfl) (by
    show Steps p.tables e below (s₁.setTop (mkF m 0 #[.val (.ref x)] [])) _
    refine XS.aloadN X0.here hexec rfl (hb hbytes d0) rfl rfl ?_
    exact Steps.refl _)
  obtain ⟨T2, X2, q2, st2⟩ := X0.hget hexec hown (wk W (.fieldLink "java/lang/String" 9 "java/lang/String" "value" "[B")) (hx.mv X0.warmed.alike hh0).2.1 (g := (mkF m 1 #[.val (.ref x)] [.ref x])) rfl (rest := []) rfl (hb hbytes d1)
  have hh2 := q2.trans hh0
  have hx2 := hx.mv X2.warmed.alike hh2
  have c3 : Steps p.tables e below (s₁.setTop (entryFrame m #[.ref x] 1)) (T2.setTop (mkF m 6 #[.val (.ref x)] [.ref x, .int (Int32.ofNat V.slots.size)])) := (c1.trans (st2 _ (Steps.refl _))).trans (by
    refine X2.alen hexec hx2.2.2.2.1 rfl rfl (hb hbytes d4) ?_
    refine XS.aloadN X2.here hexec rfl (hb hbytes d5) rfl rfl ?_
    exact Steps.refl _)
  obtain ⟨v4, T4, X4, E4, g4⟩ := X2.callV hexec (Cdr.law l x cd z) hown (wks W (virtW "java/lang/String" 335 "java/lang/String" Cdr.yN Cdr.yN)) rfl (by decide) (wk W Cdr.tab) (W := 1) (Nat.le_of_ble_eq_true rfl) (Nat.le_of_ble_eq_true rfl) (Nat.le_refl _) (Nat.le_refl _) (hx2.1.fc X2.warmed.alike) hx2.1.is (g := (mkF m 6 #[.val (.ref x)] [.ref x, .int (Int32.ofNat V.slots.size)])) rfl (by rw [hml]; rfl) c3 (argsL := []) (rest := [.int (Int32.ofNat V.slots.size)]) rfl rfl (by show 2 * 0 + (1 + 0) ≤ _; decide) (hb hbytes d6) (⟨rfl, hx2.2.2.1, hx.2.2.2.2.1.cd, s1.there X2.warmed.alike hh2, hz⟩)
  obtain ⟨rfl, q4⟩ := E4
  have c5 : Steps p.tables e below (s₁.setTop (entryFrame m #[.ref x] 1)) (T4.setTop (mkF m 10 #[.val (.ref x)] [.int (Int32.ofNat V.slots.size >>> (cd &&& 31))])) := Steps.trans g4 (by
    refine ishr X4.here hexec rfl (hb hbytes d9) rfl ?_
    exact Steps.refl _)
  rw [hx.2.2.2.2.1.len v31] at c5
  exact ⟨T4, some (.int (Int32.ofNat n)), _, _, _, X4, rfl, rfl, rfl, (fun h => by cases h), ⟨rfl, q4.trans hh2⟩, fun fs hl => c5.trans (X4.ireturnOut hexec hret rfl (Or.inl rfl) (hb hbytes d10) hl)⟩
theorem pays {l : Launch} {R : Room} {p : Program} {e : Env} {below : List Frame} {s : State} {sargs : Array Value} {len W : Nat} (x t : Addr) (V : Cell) (cd : Int32) (n : Nat) (f : Nat → Int32) (z : Int32) (htab : tab.before sargs s = true) (hfr : 2 ≤ R.frames) (hlo : W + 25 ≤ R.locals) :
    Back l R p e below s sargs yN len W (fun A₁ a₁ => A₁.cells + 0 ≤ R.cells ∧ A₁.slots + 0 ≤ R.slots ∧ P x t V cd n f z a₁ A₁.U) (fun A₁ _ v₁ B₁ => E n v₁ A₁.U B₁.U ∧ B₁.locs = A₁.locs ++ [] ∧ B₁.cells = A₁.cells + 0 ∧ B₁.slots = A₁.slots + 0) :=
  (law l x t V cd n f z).pays htab hfr (by omega)
end Len
namespace IsL
def yN : MethodName := ⟨"java/lang/String", "isLatin1", "()Z"⟩
abbrev yB : ByteArray := jdk_42_method_154_code
theorem d0 : decode yB 0 = .ok (.getstatic 38, 3) := by decide +kernel
theorem d3 : decode yB 3 = .ok (.ifCond (.eq) 14, 3) := by decide +kernel
theorem d6 : decode yB 6 = .ok (.aload_n 0, 1) := by decide +kernel
theorem d7 : decode yB 7 = .ok (.getfield 15, 3) := by decide +kernel
theorem d10 : decode yB 10 = .ok (.ifCond (.ne) 7, 3) := by decide +kernel
theorem d13 : decode yB 13 = .ok (.iconst 1, 1) := by decide +kernel
theorem d14 : decode yB 14 = .ok (.goto 4, 3) := by decide +kernel
theorem d17 : decode yB 17 = .ok (.iconst 0, 1) := by decide +kernel
theorem d18 : decode yB 18 = .ok (.ireturn, 1) := by decide +kernel
def site : List Cond := [.fieldLink "java/lang/String" 38 "java/lang/String" "COMPACT_STRINGS" "Z", .fieldLink "java/lang/String" 15 "java/lang/String" "coder" "B"]
def tab : Cond := tabOf yN yB 1 (some .boolean) site
def P (x : Addr) (cd z : Int32) (args : Array Value) (s : State) : Prop := args = #[.ref x] ∧ Has x "java/lang/String" "coder" "B" (.int cd) s ∧ (cd = 0 ∨ cd = 1) ∧ StaticIs s "java/lang/String" "COMPACT_STRINGS" "Z" (.int z) ∧ ¬ z = 0
def E (cd : Int32) (r : Option Value) (s u : State) : Prop := XT.PureE (some (.int (1 - cd))) r s u
theorem law (l : Launch) (x : Addr) (cd z : Int32) : Law l yN 1 0 0 0 yB 1 (some .boolean) site (P x cd z) (E cd) [] 0 0 := by
  refine Law.of_walk (plainFor_of_name (by decide +kernel)) (by decide +kernel) (by decide +kernel) (by decide) (fun _ _ h => by rw [h.1]; rfl) (fun _ U U' hal hh h => ⟨h.1, h.2.1.mv hal hh, h.2.2.1, h.2.2.2.1.there hal hh, h.2.2.2.2⟩) (fun r U U' V V' h1 hal h2 h => XT.PureE.mv r U U' V V' h1 hal h2 h) ?_
  intro p e s m args below meth c s₁ X0 hexec hbytes hml hret hlk hnm hown hh0 W hP
  obtain ⟨rfl, hx, hc, s1, hz⟩ := hP
  have c1 : Steps p.tables e below (s₁.setTop (entryFrame m #[.ref x] 1)) (s₁.setTop (mkF m 0 #[.val (.ref x)] [])) := entry rfl
  obtain ⟨T2, X2, q2, st2⟩ := X0.sget hexec hown (wk W (.fieldLink "java/lang/String" 38 "java/lang/String" "COMPACT_STRINGS" "Z")) s1 (fun _ _ h => by rw [hh0]; exact h) (g := (mkF m 0 #[.val (.ref x)] [])) rfl (hb hbytes d0)
  have hh2 := q2.trans hh0
  have c3 : Steps p.tables e below (s₁.setTop (entryFrame m #[.ref x] 1)) (T2.setTop (mkF m 7 #[.val (.ref x)] [.ref x])) := (c1.trans (st2 _ (Steps.refl _))).trans (by
    refine XS.ifNo X2.here hexec rfl (hb hbytes d3) rfl (i0_eq_f hz) ?_
    refine XS.aloadN X2.here hexec rfl (hb hbytes d6) rfl rfl ?_
    exact Steps.refl _)
  obtain ⟨T4, X4, q4, st4⟩ := X2.hget hexec hown (wk W (.fieldLink "java/lang/String" 15 "java/lang/String" "coder" "B")) (hx.mv X2.warmed.alike hh2) (g := (mkF m 7 #[.val (.ref x)] [.ref x])) rfl (rest := []) rfl (hb hbytes d7)
  have c5 : Steps p.tables e below (s₁.setTop (entryFrame m #[.ref x] 1)) (T4.setTop (mkF m 10 #[.val (.ref x)] [.int cd])) := c3.trans (st4 _ (Steps.refl _))
  have c6 : Steps p.tables e below (s₁.setTop (entryFrame m #[.ref x] 1)) (T4.setTop (mkF m 18 #[.val (.ref x)] [.int (1 - cd)])) := by
    rcases hc with rfl | rfl
    · exact c5.trans (by
        refine XS.ifNo X4.here hexec rfl (hb hbytes d10) rfl (i0_ne_f rfl) ?_
        refine iconstV X4.here hexec rfl 1 (hb hbytes d13) (by decide) ?_
        refine XS.goto X4.here hexec rfl (pc0 := 14) rfl (hb hbytes d14) (by decide) rfl ?_
        exact Steps.refl _)
    · exact c5.trans (by
        refine XS.ifYes X4.here hexec rfl (pc0 := 10) rfl (hb hbytes d10) rfl (i0_ne_t (by decide)) (by decide) rfl ?_
        refine iconstV X4.here hexec rfl 0 (hb hbytes d17) (by decide) ?_
        exact Steps.refl _)
  exact ⟨T4, some (.int (1 - cd)), _, _, _, X4, rfl, rfl, rfl, (fun h => by cases h), ⟨rfl, q4.trans hh2⟩, fun fs hl => c6.trans (X4.ireturnOut hexec hret (by rcases hc with rfl | rfl <;> rfl) (Or.inr (Or.inl rfl)) (hb hbytes d18) hl)⟩
end IsL
namespace LChA
def yN : MethodName := ⟨"java/lang/StringLatin1", "charAt", "([BI)C"⟩
abbrev yB : ByteArray := jdk_43_method_2_code
theorem d0 : decode yB 0 = .ok (.iload_n 1, 1) := by decide +kernel
theorem d1 : decode yB 1 = .ok (.aload_n 0, 1) := by decide +kernel
theorem d2 : decode yB 2 = .ok (.arraylength, 1) := by decide +kernel
theorem d3 : decode yB 3 = .ok (.invokestatic 9, 3) := by decide +kernel
theorem d6 : decode yB 6 = .ok (.aload_n 0, 1) := by decide +kernel
theorem d7 : decode yB 7 = .ok (.iload_n 1, 1) := by decide +kernel
theorem d8 : decode yB 8 = .ok (.baload, 1) := by decide +kernel
theorem d9 : decode yB 9 = .ok (.sipush 255, 3) := by decide +kernel
theorem d12 : decode yB 12 = .ok (.iand, 1) := by decide +kernel
theorem d13 : decode yB 13 = .ok (.i2c, 1) := by decide +kernel
theorem d14 : decode yB 14 = .ok (.ireturn, 1) := by decide +kernel
def site : List Cond := [JO.Str_checkIndex.tab] ++ staticW "java/lang/StringLatin1" 9 JO.Str_checkIndex.yN
def tab : Cond := tabOf yN yB 2 (some .char) site
def P (t : Addr) (V : Cell) (i : Nat) (u : Int32) (fm : Value) (args : Array Value) (s : State) : Prop := args = #[.ref t, .int (Int32.ofNat i)] ∧ XT.Arr .byte t V s ∧ V.slots[i]? = some (.int u) ∧ (StaticIs s "jdk/internal/util/Preconditions" "SIOOBE_FORMATTER" "Ljava/util/function/BiFunction;" fm ∧ fm.isRef = true)
def E (u : Int32) (r : Option Value) (s w : State) : Prop := XT.PureE (some (.int (chr8 u))) r s w
theorem law (l : Launch) (t : Addr) (V : Cell) (i : Nat) (u : Int32) (fm : Value) : Law l yN 2 2 2 27 yB 2 (some .char) site (P t V i u fm) (E u) [] 0 0 := by
  refine Law.of_walk (plainFor_of_name (by decide +kernel)) (by decide +kernel) (by decide +kernel) (by decide) (fun _ _ h => by rw [h.1]; rfl) (fun _ U U' hal hh h => ⟨h.1, h.2.1.mv hal hh, h.2.2.1, h.2.2.2.1.there hal hh, h.2.2.2.2⟩) (fun r U U' V V' h1 hal h2 h => XT.PureE.mv r U U' V V' h1 hal h2 h) ?_
  intro p e s m args below meth c s₁ X0 hexec hbytes hml hret hlk hnm hown hh0 W hP
  obtain ⟨rfl, hV, hu, s1, rf⟩ := hP
  have v31 := hV.2.2.2
  have hi : i < V.slots.size := (Array.getElem?_eq_some_iff.mp hu).1
  have c1 : Steps p.tables e below (s₁.setTop (entryFrame m #[.ref t, .int (Int32.ofNat i)] 2)) (s₁.setTop (mkF m 0 #[.val (.ref t), .val (.int (Int32.ofNat i))] [])) := entry rfl
  have c2 : Steps p.tables e below (s₁.setTop (entryFrame m #[.ref t, .int (Int32.ofNat i)] 2)) (s₁.setTop (mkF m 3 #[.val (.ref t), .val (.int (Int32.ofNat i))] [.int (Int32.ofNat V.slots.size), .int (Int32.ofNat i)])) := c1.trans (by
    refine XS.iloadN X0.here hexec rfl (hb hbytes d0) rfl ?_
    refine XS.aloadN X0.here hexec rfl (hb hbytes d1) rfl rfl ?_
    refine X0.alen hexec (hV.mv X0.warmed.alike hh0) rfl rfl (hb hbytes d2) ?_
    exact Steps.refl _)
  obtain ⟨v3, T3, X3, E3, g3⟩ := X0.callS hexec (JO.Str_checkIndex.law l (Int32.ofNat i) (Int32.ofNat V.slots.size) fm) hown (wks W (staticW "java/lang/StringLatin1" 9 JO.Str_checkIndex.yN)) (wk W JO.Str_checkIndex.tab) (W := 0) (Nat.le_of_ble_eq_true rfl) (Nat.le_of_ble_eq_true rfl) (Nat.le_refl _) (Nat.le_refl _) (g := (mkF m 3 #[.val (.ref t), .val (.int (Int32.ofNat i))] [.int (Int32.ofNat V.slots.size), .int (Int32.ofNat i)])) rfl (by rw [hml]; rfl) c2 (argsL := [.int (Int32.ofNat i), .int (Int32.ofNat V.slots.size)]) (rest := []) rfl rfl (by show 2 * 0 + 0 ≤ _; decide) (hb hbytes d3) (⟨rfl, rf, s1.there X0.warmed.alike hh0, Int32.ofNat_not_neg (by omega), lt32 v31 hi⟩)
  obtain ⟨rfl, q3⟩ := E3
  have hh3 := q3.trans hh0
  have c4 : Steps p.tables e below (s₁.setTop (entryFrame m #[.ref t, .int (Int32.ofNat i)] 2)) (T3.setTop (mkF m 14 #[.val (.ref t), .val (.int (Int32.ofNat i))] [.int (chr8 u)])) := Steps.trans g3 (by
    refine XS.aloadN X3.here hexec rfl (hb hbytes d6) rfl rfl ?_
    refine XS.iloadN X3.here hexec rfl (hb hbytes d7) rfl ?_
    refine X3.aget hexec (hV.mv X3.warmed.alike hh3) rfl hu rfl rfl (hb hbytes d8) ?_
    refine sipushV X3.here hexec rfl 255 (hb hbytes d9) (by decide) ?_
    refine XS.iand X3.here hexec rfl (hb hbytes d12) rfl ?_
    refine i2c X3.here hexec rfl (hb hbytes d13) rfl ?_
    exact Steps.refl _)
  exact ⟨T3, some (.int (chr8 u)), _, _, _, X3, rfl, rfl, rfl, (fun h => by cases h), ⟨rfl, hh3⟩, fun fs hl => c4.trans (X3.ireturnOut hexec hret (narrow_c _) (Or.inr (Or.inr (Or.inr (Or.inl rfl)))) (hb hbytes d14) hl)⟩
end LChA
end StrChars
namespace StrChars.Road
open Jvm Sem ClassFile Op Lib Jvm.Stand Jvm.Free Jvm.Free.XT
open Jvm.Lib.Cold (StaticIs)
theorem consq {a : Array Value} {s : State} {c : Jvm.Cond} {L : List Jvm.Cond} (h0 : c.before a s = true) (h : ∀ w ∈ L, w.before a s = true) : ∀ w ∈ c :: L, w.before a s = true := fun w hw => (List.mem_cons.mp hw).elim (fun e => e ▸ h0) (h w)
/-- the words of String.length(), either coding -/
abbrev wordsLen : List Jvm.Cond := [.code Len.yN Len.yB 1 (some .int), .initialized ST, .fieldLink ST 9 ST "value" "[B", .fieldLink ST 38 ST "COMPACT_STRINGS" "Z", .fieldLink ST 15 ST "coder" "B", .code Cdr.yN Cdr.yB 1 (some .byte), .methodLink ST 335 Cdr.yN, .declares Cdr.yN, .selects ST Cdr.yN Cdr.yN, .instanceMethod Cdr.yN]
theorem tabLen_of {a : Array Value} {s : State} (h : ∀ w ∈ wordsLen, w.before a s = true) : Len.tab.before a s = true := by
  have hc : Cdr.tab.before a s = true := unparts (wk h (.code Cdr.yN Cdr.yB 1 (some .byte))) (wks h (.initialized Cdr.yN.cls :: Cdr.site))
  have q := consq hc h
  exact unparts (wk q (.code Len.yN Len.yB 1 (some .int))) (wks q (.initialized Len.yN.cls :: Len.site))
theorem movedLen {Z s : State} {a0 args : Array Value} (hZ : Z.Warmed39 s.vm) (hw : ∀ d ∈ wordsLen, d.before a0 Z = true) : ∀ d ∈ wordsLen, d.before args s = true := fun d hd => by
  have q := hw d hd
  have t : ∀ d ∈ wordsLen, d = .arrayClass .byte ∨ (d.onTables && d.keepsFace) = true := by decide +kernel
  rcases t d hd with rfl | t
  · exact RoadKit.mvA hZ q
  · exact RoadKit.mv hZ q t
/-- the bytes of the chars cs, low before high -/
def wideBytes : List Int32 → List Value
  | [] => []
  | c :: cs => .int (lo8 c) :: .int (hi8 c) :: wideBytes cs
theorem wide_lo (d : Value) : ∀ (cs : List Int32) (j : Nat), j < cs.length → (wideBytes cs).getD (2 * j) d = .int (lo8 (cs.getD j 0))
  | [], j, h => absurd h (Nat.not_lt_zero j)
  | c :: cs, 0, _ => rfl
  | c :: cs, j + 1, h => by
    have q := wide_lo d cs j (by simpa using h)
    rw [show 2 * (j + 1) = 2 * j + 1 + 1 from by omega]
    simpa [wideBytes] using q
theorem wide_hi (d : Value) : ∀ (cs : List Int32) (j : Nat), j < cs.length → (wideBytes cs).getD (2 * j + 1) d = .int (hi8 (cs.getD j 0))
  | [], j, h => absurd h (Nat.not_lt_zero j)
  | c :: cs, 0, _ => rfl
  | c :: cs, j + 1, h => by
    have q := wide_hi d cs j (by simpa using h)
    rw [show 2 * (j + 1) + 1 = 2 * j + 1 + 1 + 1 from by omega]
    simpa [wideBytes] using q
theorem low_at (d : Value) (cs : List Int32) (j : Nat) (h : j < cs.length) : (cs.map fun c => Value.int (lo8 c)).getD j d = .int (lo8 (cs.getD j 0)) := by
  simp [List.getD_eq_getElem?_getD, h]
/-- an array of N2 bytes vs codes the chars cs by the coder cd -/
def CodA (cs : List Int32) (cd N2 : Int32) (vs : List Value) : Prop := (cd = 0 ∧ N2 = Int32.ofNat cs.length ∧ vs = (cs.map fun c => Value.int (lo8 c)) ∧ ∀ c ∈ cs, ¬ 255 < c) ∨ (cd = 1 ∧ N2 = Int32.ofNat (2 * cs.length) ∧ vs = wideBytes cs ∧ ∃ c ∈ cs, 255 < c)
theorem CodA.cod {cs : List Int32} {cd N2 : Int32} {vs : List Value} {V : Cell} (h : CodA cs cd N2 vs) (hn : 2 * cs.length < 2 ^ 31) (hs : V.slots.size = N2.toNatClampNeg) (hv : RoadKit.Has V vs (.int 0)) : Cod cd cs.length (fun j => cs.getD j 0) V := by
  rcases h with ⟨rfl, rfl, rfl, h⟩ | ⟨rfl, rfl, rfl, c, hc, hw⟩
  · rw [n32 (by omega)] at hs
    exact Or.inl ⟨rfl, hs, fun j hj => ⟨by rw [hv j (by omega), low_at _ _ _ hj], by
      have e : cs.getD j 0 = cs[j] := by simp [List.getD_eq_getElem?_getD, hj]
      show ¬ 255 < cs.getD j 0
      rw [e]; exact h _ (List.getElem_mem _)⟩⟩
  · rw [n32 (by omega)] at hs
    obtain ⟨j, hj, rfl⟩ := List.getElem_of_mem hc
    exact Or.inr ⟨rfl, hs, fun j hj => ⟨by rw [hv _ (by omega), wide_lo _ _ _ hj], by rw [hv _ (by omega), wide_hi _ _ _ hj]⟩, j, hj, by
      have e : cs.getD j 0 = cs[j] := by simp [List.getD_eq_getElem?_getD, hj]
      show 255 < cs.getD j 0
      rw [e]; exact hw⟩
/-- an object of exactly java/lang/String, its two fields found: as the laws ask it -/
theorem strObj {Z U : State} {a0 : Array Value} {kI : Nat} (wi : (Jvm.Cond.instantiable ST kI).before a0 Z = true) (al : Z.vm.Alike U.vm) {x : Addr} {v0 c0 : Value} (E : RoadKit.Exa Z U.heap x ST) (V : RoadKit.Fld Z U.heap x ST "value" "[B" v0) (C : RoadKit.Fld Z U.heap x ST "coder" "B" c0) :
    ∃ (D : Cell) (fV fC : Field), Blank ST x D U ∧ Found ST "value" "[B" fV U ∧ Found ST "coder" "B" fC U ∧ D.slots[fV.slot]? = some v0 ∧ D.slots[fC.slot]? = some c0 ∧ RoadKit.slotOf Z ST "value" "[B" = fV.slot ∧ RoadKit.slotOf Z ST "coder" "B" = fC.slot := by
  obtain ⟨D, cfV, kV, iV, fV, hD, gV, stV, knV, obV, asV, slV⟩ := V
  obtain ⟨D', cfC, kC, iC, fC, hD', gC, stC, -, -, asC, slC⟩ := C
  cases hD.symm.trans hD'
  obtain ⟨D2, kD, e1, e2, e3, e4, e5⟩ := E
  cases hD.symm.trans e1
  obtain ⟨c2, k2, i1, i2, i3, -⟩ := Cond.instantiable_spec wi
  cases e2.symm.trans i1
  cases e3.symm.trans i2
  obtain ⟨kU, u1, u2⟩ := al.2.2 _ _ e3
  exact ⟨D, fV, fC, ⟨hD, ⟨knV, fun q hq => by rw [hq] at obV; cases obV⟩, by rw [al.findClass]; exact e2, kU, u1, by rw [u2]; exact i3, by rw [u2]; exact e5 i3⟩, ⟨SBG.found_only al ⟨cfV, kV, iV, gV⟩, stV⟩, ⟨SBG.found_only al ⟨cfC, kC, iC, gC⟩, stC⟩, slV, slC, by simp [RoadKit.slotOf, gV], by simp [RoadKit.slotOf, gC]⟩
theorem sta_is {Z U : State} (al : Z.vm.Alike U.vm) {C n d : String} {v : Value} (S : RoadKit.Sta Z U.heap C n d v) : StaticIs U C n d v := by
  obtain ⟨cfS, iS, kS, fS, st, cS, t1, t2, t3, t4, t5, t6, t7⟩ := S
  exact StaticIs.there (s := { Z with heap := U.heap }) ⟨cfS, iS, kS, fS, st, cS, t1, t2, t3, t4, t5, (fun q => by rw [q] at t6; cases t6), t7⟩ al rfl
/-- **length() OF SUCH A STRING** -/
theorem lenW {p : Program} {l : Launch} {e : Env} {R : Room} {s : State} {args : Array Value} {below : List Frame} {len W : Nat} {Z : State} {a0 : Array Value} {h : Heap} (hZ : Z.Warmed39 s.vm) (hw : ∀ d ∈ wordsLen, d.before a0 Z = true) {kI : Nat} (wi : (Jvm.Cond.instantiable ST kI).before a0 Z = true)
    {x t : Addr} {kb : ClassId} {cs : List Int32} {cd N2 z : Int32} {vs : List Value} (E : RoadKit.Exa Z h x ST) (V : RoadKit.Fld Z h x ST "value" "[B" (.ref t)) (C : RoadKit.Fld Z h x ST "coder" "B" (.int cd)) (K : RoadKit.Arv Z h t kb .byte N2 vs (.int 0)) (hc : CodA cs cd N2 vs) (hb : ∀ c ∈ cs, ¬ c < 0 ∧ ¬ (65535 : Int32) < c)
    (S : RoadKit.Sta Z h ST "COMPACT_STRINGS" "Z" (.int z)) (hz : ¬ z = 0) (l2 : cs.length ≤ 4000) (hfr : 2 ≤ R.frames) (hlo : W + 25 ≤ R.locals) :
    Back l R p e below s args (⟨"java/lang/String", "length", "()I"⟩ : MethodName) len W (fun P a => a = #[.ref x] ∧ P.U.heap = h ∧ P.cells + 0 ≤ R.cells ∧ P.slots + 0 ≤ R.slots)
      (fun P _ v B => ∃ L, (v = some (.int (Int32.ofNat cs.length)) ∧ L = [] ∧ B.U.heap = h) ∧ B.locs = P.locs ++ L ∧ B.cells = P.cells + 0 ∧ B.slots = P.slots + 0) := by
  obtain ⟨A, K1, K2, K3, K4, K5, K6⟩ := K
  have hcod := hc.cod (by omega) K3 K5
  intro m meth c P g ig mk a X hg hsize hdg hW hn hp'
  obtain ⟨rfl, rfl, r1, r2⟩ := hp'
  have al : Z.vm.Alike P.U.vm := hZ.alike.trans X.warmed.alike
  obtain ⟨D, fV, fC, hB, F1, F2, g1, g2, -, -⟩ := strObj wi al E V C
  have hx : Txt x t A cd cs.length (fun j => cs.getD j 0) P.U := ⟨⟨_, hB.2.2.1, D, hB.1, rfl, by cases q : D.vm <;> first | rfl | exact absurd q (hB.2.1.2 _)⟩, Has.of hB F1 g1, Has.of hB F2 g2, ⟨K1.1, State.isArrayOf_alike al K1.2.1, K1.2.2, by rcases hcod with ⟨-, q, -⟩ | ⟨-, q, -⟩ <;> omega⟩, hcod, fun j hj => by
    have e : cs.getD j 0 = cs[j] := by simp [List.getD_eq_getElem?_getD, hj]
    show ¬ cs.getD j 0 < 0 ∧ ¬ 65535 < cs.getD j 0
    rw [e]; exact hb _ (List.getElem_mem _)⟩
  obtain ⟨v, B, X', ⟨⟨hv, hh⟩, hl, hk, hs⟩, st⟩ := Len.pays x t A cd cs.length (fun j => cs.getD j 0) z (tabLen_of (movedLen hZ hw)) hfr hlo m meth c P g ig mk _ X hg hsize hdg hW hn ⟨r1, r2, rfl, hx, sta_is al S, hz⟩
  exact ⟨v, B, X', ⟨[], ⟨hv, rfl, hh⟩, hl, hk, hs⟩, st⟩
end StrChars.Road
namespace StrChars
open Jvm Sem ClassFile Op Lib Jvm.Stand Jvm.Free.XT Jvm.Free.ALB Jvm.Free.JM Jvm.Free
open Jvm.Lib.Cold (StaticIs)
/-- what place i of a byte[]'s cell holds -/
def yv (A : Cell) (i : Nat) : Int32 := match A.slots[i]? with | some (.int x) => x | _ => 0
theorem yv_get {a : Addr} {A : Cell} {U : State} (h : XT.Arr .byte a A U) (ht : Typed .byte A) {i : Nat} (hi : i < A.slots.size) : A.slots[i]? = some (.int (yv A i)) := by
  have e := Array.getElem?_eq_getElem hi
  have f := ht i _ e
  unfold yv; rw [e]
  generalize A.slots[i] = v at f
  cases v <;> simp [fits] at f ⊢
/-- the two arrays are equal, place for place -/
def EqC (A B : Cell) : Prop := A.slots.size = B.slots.size ∧ ∀ i, i < A.slots.size → yv A i = yv B i
/-- a boolean that says whether p -/
def Says01 (q : Prop) (r : Option Value) (s u : State) : Prop := ∃ v : Int32, r = some (.int v) ∧ u.heap = s.heap ∧ ((v = 1 ∧ q) ∨ (v = 0 ∧ ¬ q))
theorem Says01.mv {q : Prop} : ∀ r (U U' V V' : State), U'.heap = U.heap → V.vm.Alike V'.vm → V'.heap = V.heap → Says01 q r U V → Says01 q r U' V' :=
  fun r U U' V V' h1 _ h2 ⟨v, a, b, c⟩ => ⟨v, a, by rw [h1, h2]; exact b, c⟩
namespace LEq
def yN : MethodName := ⟨"java/lang/StringLatin1", "equals", "([B[B)Z"⟩
abbrev yB : ByteArray := jdk_43_method_13_code
theorem d0 : decode yB 0 = .ok (.aload_n 0, 1) := by decide +kernel
theorem d1 : decode yB 1 = .ok (.arraylength, 1) := by decide +kernel
theorem d2 : decode yB 2 = .ok (.aload_n 1, 1) := by decide +kernel
theorem d3 : decode yB 3 = .ok (.arraylength, 1) := by decide +kernel
theorem d4 : decode yB 4 = .ok (.if_icmp (.ne) 30, 3) := by decide +kernel
theorem d7 : decode yB 7 = .ok (.iconst 0, 1) := by decide +kernel
theorem d8 : decode yB 8 = .ok (.istore_n 2, 1) := by decide +kernel
theorem d9 : decode yB 9 = .ok (.iload_n 2, 1) := by decide +kernel
theorem d10 : decode yB 10 = .ok (.aload_n 0, 1) := by decide +kernel
theorem d11 : decode yB 11 = .ok (.arraylength, 1) := by decide +kernel
theorem d12 : decode yB 12 = .ok (.if_icmp (.ge) 20, 3) := by decide +kernel
theorem d15 : decode yB 15 = .ok (.aload_n 0, 1) := by decide +kernel
theorem d16 : decode yB 16 = .ok (.iload_n 2, 1) := by decide +kernel
theorem d17 : decode yB 17 = .ok (.baload, 1) := by decide +kernel
theorem d18 : decode yB 18 = .ok (.aload_n 1, 1) := by decide +kernel
theorem d19 : decode yB 19 = .ok (.iload_n 2, 1) := by decide +kernel
theorem d20 : decode yB 20 = .ok (.baload, 1) := by decide +kernel
theorem d21 : decode yB 21 = .ok (.if_icmp (.eq) 5, 3) := by decide +kernel
theorem d24 : decode yB 24 = .ok (.iconst 0, 1) := by decide +kernel
theorem d25 : decode yB 25 = .ok (.ireturn, 1) := by decide +kernel
theorem d26 : decode yB 26 = .ok (.iinc 2 1, 3) := by decide +kernel
theorem d29 : decode yB 29 = .ok (.goto (-20), 3) := by decide +kernel
theorem d32 : decode yB 32 = .ok (.iconst 1, 1) := by decide +kernel
theorem d33 : decode yB 33 = .ok (.ireturn, 1) := by decide +kernel
theorem d34 : decode yB 34 = .ok (.iconst 0, 1) := by decide +kernel
theorem d35 : decode yB 35 = .ok (.ireturn, 1) := by decide +kernel
def site : List Cond := []
def tab : Cond := tabOf yN yB 3 (some .boolean) site
def P (a : Addr) (A : Cell) (b : Addr) (B : Cell) (args : Array Value) (s : State) : Prop := args = #[.ref a, .ref b] ∧ XT.Arr .byte a A s ∧ Typed .byte A ∧ XT.Arr .byte b B s ∧ Typed .byte B
/-- whether two byte[] are equal, place for place -/
theorem law (l : Launch) (a : Addr) (A : Cell) (b : Addr) (B : Cell) : Law l yN 2 2 0 0 yB 3 (some .boolean) site (P a A b B) (Says01 (EqC A B)) [] 0 0 := by
  refine Law.of_walk (plainFor_of_name (by decide +kernel)) (by decide +kernel) (by decide +kernel) (by decide) (fun _ _ h => by rw [h.1]; rfl) (fun _ U U' hal hh h => ⟨h.1, h.2.1.mv hal hh, h.2.2.1, h.2.2.2.1.mv hal hh, h.2.2.2.2⟩) (fun r U U' V V' h1 hal h2 h => Says01.mv r U U' V V' h1 hal h2 h) ?_
  intro p e s m args below meth c s₁ X0 hexec hbytes hml hret hlk hnm hown hh0 W hP
  obtain ⟨rfl, hA, tA, hB, tB⟩ := hP
  have a31 := hA.2.2.2
  have b31 := hB.2.2.2
  have hA0 := hA.mv X0.warmed.alike hh0
  have hB0 := hB.mv X0.warmed.alike hh0
  have c1 : Steps p.tables e below (s₁.setTop (entryFrame m #[.ref a, .ref b] 3)) (s₁.setTop (mkF m 0 #[.val (.ref a), .val (.ref b), .unset] [])) := entry rfl
  have c2 : Steps p.tables e below (s₁.setTop (entryFrame m #[.ref a, .ref b] 3)) (s₁.setTop (mkF m 4 #[.val (.ref a), .val (.ref b), .unset] [.int (Int32.ofNat B.slots.size), .int (Int32.ofNat A.slots.size)])) := c1.trans (by
    refine XS.aloadN X0.here hexec rfl (hb hbytes d0) rfl rfl ?_
    refine X0.alen hexec hA0 rfl rfl (hb hbytes d1) ?_
    refine XS.aloadN X0.here hexec rfl (hb hbytes d2) rfl rfl ?_
    refine X0.alen hexec hB0 rfl rfl (hb hbytes d3) ?_
    exact Steps.refl _)
  by_cases hs : A.slots.size = B.slots.size
  · have c3 : Steps p.tables e below (s₁.setTop (entryFrame m #[.ref a, .ref b] 3)) (s₁.setTop (mkF m 9 #[.val (.ref a), .val (.ref b), .val (.int 0)] [])) := c2.trans (by
      refine XS.icmpNo X0.here hexec rfl (hb hbytes d4) rfl (ii_ne_f (by rw [hs])) ?_
      refine iconstV X0.here hexec rfl 0 (hb hbytes d7) (by decide) ?_
      refine XS.istoreN X0.here hexec rfl (hb hbytes d8) rfl rfl ?_
      exact Steps.refl _)
    have loop : ∀ (r i : Nat), i + r = A.slots.size → (∀ j, j < i → yv A j = yv B j) → Steps p.tables e below (s₁.setTop (entryFrame m #[.ref a, .ref b] 3)) (s₁.setTop (mkF m 9 #[.val (.ref a), .val (.ref b), .val (.int (Int32.ofNat i))] [])) → ∃ (pc : Nat) (Ls : Array Slot) (v : Int32), (pc = 25 ∨ pc = 33) ∧ ((v = 1 ∧ EqC A B) ∨ (v = 0 ∧ ¬ EqC A B)) ∧ Steps p.tables e below (s₁.setTop (entryFrame m #[.ref a, .ref b] 3)) (s₁.setTop (mkF m pc Ls [.int v])) := by
      intro r
      induction r with
      | zero =>
        intro i hi he cl
        exact ⟨33, _, 1, Or.inr rfl, Or.inl ⟨rfl, hs, fun j hj => he j (by omega)⟩, cl.trans (by
          refine XS.iloadN X0.here hexec rfl (hb hbytes d9) rfl ?_
          refine XS.aloadN X0.here hexec rfl (hb hbytes d10) rfl rfl ?_
          refine X0.alen hexec hA0 rfl rfl (hb hbytes d11) ?_
          refine XS.icmpYes X0.here hexec rfl (pc0 := 12) rfl (hb hbytes d12) rfl (ii_ge_t (nlt32 (by omega) (by omega))) (by decide) rfl ?_
          refine iconstV X0.here hexec rfl 1 (hb hbytes d32) (by decide) ?_
          exact Steps.refl _)⟩
      | succ r ih =>
        intro i hi he cl
        have c4 : Steps p.tables e below (s₁.setTop (entryFrame m #[.ref a, .ref b] 3)) (s₁.setTop (mkF m 21 #[.val (.ref a), .val (.ref b), .val (.int (Int32.ofNat i))] [.int (yv B i), .int (yv A i)])) := cl.trans (by
          refine XS.iloadN X0.here hexec rfl (hb hbytes d9) rfl ?_
          refine XS.aloadN X0.here hexec rfl (hb hbytes d10) rfl rfl ?_
          refine X0.alen hexec hA0 rfl rfl (hb hbytes d11) ?_
          refine XS.icmpNo X0.here hexec rfl (hb hbytes d12) rfl (ii_ge_f (lt32 (by omega) (by omega))) ?_
          refine XS.aloadN X0.here hexec rfl (hb hbytes d15) rfl rfl ?_
          refine XS.iloadN X0.here hexec rfl (hb hbytes d16) rfl ?_
          refine X0.aget hexec hA0 rfl (yv_get hA tA (i := i) (by omega)) rfl rfl (hb hbytes d17) ?_
          refine XS.aloadN X0.here hexec rfl (hb hbytes d18) rfl rfl ?_
          refine XS.iloadN X0.here hexec rfl (hb hbytes d19) rfl ?_
          refine X0.aget hexec hB0 rfl (yv_get hB tB (i := i) (by omega)) rfl rfl (hb hbytes d20) ?_
          exact Steps.refl _)
        by_cases hv : yv A i = yv B i
        · have c5 : Steps p.tables e below (s₁.setTop (entryFrame m #[.ref a, .ref b] 3)) (s₁.setTop (mkF m 9 #[.val (.ref a), .val (.ref b), .val (.int (Int32.ofNat i + 1))] [])) := c4.trans (by
            refine XS.icmpYes X0.here hexec rfl (pc0 := 21) rfl (hb hbytes d21) rfl (ii_eq_t hv) (by decide) rfl ?_
            refine iincV X0.here hexec rfl 1 (hb hbytes d26) (by decide) rfl rfl ?_
            refine XS.goto X0.here hexec rfl (pc0 := 29) rfl (hb hbytes d29) (by decide) rfl ?_
            exact Steps.refl _)
          rw [succ32] at c5
          exact ih (i + 1) (by omega) (fun j hj => by
            by_cases e : j = i
            · rw [e]; exact hv
            · exact he j (by omega)) c5
        · exact ⟨25, _, 0, Or.inl rfl, Or.inr ⟨rfl, fun q => hv (q.2 i (by omega))⟩, c4.trans (by
            refine XS.icmpNo X0.here hexec rfl (hb hbytes d21) rfl (ii_eq_f hv) ?_
            refine iconstV X0.here hexec rfl 0 (hb hbytes d24) (by decide) ?_
            exact Steps.refl _)⟩
    obtain ⟨pc, Ls, v, hpc, hv, cz⟩ := loop A.slots.size 0 (by omega) (fun j hj => absurd hj (Nat.not_lt_zero j)) c3
    have nv : narrow .boolean (.int v) = .int v := by rcases hv with ⟨rfl, -⟩ | ⟨rfl, -⟩ <;> rfl
    rcases hpc with rfl | rfl
    · exact ⟨s₁, some (.int v), _, _, _, X0, rfl, rfl, rfl, (fun h => by cases h), ⟨v, rfl, hh0, hv⟩, fun fs hl => cz.trans (X0.ireturnOut hexec hret nv (Or.inr (Or.inl rfl)) (hb hbytes d25) hl)⟩
    · exact ⟨s₁, some (.int v), _, _, _, X0, rfl, rfl, rfl, (fun h => by cases h), ⟨v, rfl, hh0, hv⟩, fun fs hl => cz.trans (X0.ireturnOut hexec hret nv (Or.inr (Or.inl rfl)) (hb hbytes d33) hl)⟩
  · have c3 : Steps p.tables e below (s₁.setTop (entryFrame m #[.ref a, .ref b] 3)) (s₁.setTop (mkF m 35 #[.val (.ref a), .val (.ref b), .unset] [.int 0])) := c2.trans (by
      refine XS.icmpYes X0.here hexec rfl (pc0 := 4) rfl (hb hbytes d4) rfl (ii_ne_t (ne32 a31 b31 hs)) (by decide) rfl ?_
      refine iconstV X0.here hexec rfl 0 (hb hbytes d34) (by decide) ?_
      exact Steps.refl _)
    exact ⟨s₁, some (.int 0), _, _, _, X0, rfl, rfl, rfl, (fun h => by cases h), ⟨0, rfl, hh0, Or.inr ⟨rfl, fun q => hs q.1⟩⟩, fun fs hl => c3.trans (X0.ireturnOut hexec hret rfl (Or.inr (Or.inl rfl)) (hb hbytes d35) hl)⟩
end LEq
theorem Cod.ty {cd : Int32} {n : Nat} {f : Nat → Int32} {V : Cell} (h : Cod cd n f V) : Typed .byte V := fun i v hv => by
  have hi : i < V.slots.size := (Array.getElem?_eq_some_iff.mp hv).1
  rcases h with ⟨-, k1, k2⟩ | ⟨-, k1, k2, -⟩
  · rw [(k2 i (by omega)).1] at hv; cases hv; exact fits_lo8 _
  · rcases Nat.mod_two_eq_zero_or_one i with e | e
    · obtain ⟨j, rfl⟩ : ∃ j, i = 2 * j := ⟨i / 2, by omega⟩
      rw [(k2 j (by omega)).1] at hv; cases hv; exact fits_lo8 _
    · obtain ⟨j, rfl⟩ : ∃ j, i = 2 * j + 1 := ⟨i / 2, by omega⟩
      rw [(k2 j (by omega)).2] at hv; cases hv; exact fits_lo8 _
/-- the same text -/
def SameT (n : Nat) (f : Nat → Int32) (k : Nat) (g : Nat → Int32) : Prop := n = k ∧ ∀ j, j < n → f j = g j
theorem lo8_inj {x y : Int32} (h0 : ¬ x < 0) (h1 : ¬ 255 < x) (k0 : ¬ y < 0) (k1 : ¬ 255 < y) (h : lo8 x = lo8 y) : x = y := by
  rw [← lo8_mask h0 h1, ← lo8_mask k0 k1, h]
/-- arrays coded by one coder are equal just where the texts are -/
theorem Cod.eqv {cd : Int32} {n k : Nat} {f g : Nat → Int32} {V V' : Cell} (h : Cod cd n f V) (h' : Cod cd k g V') (hf : ∀ j, j < n → ¬ f j < 0 ∧ ¬ 65535 < f j) (hg : ∀ j, j < k → ¬ g j < 0 ∧ ¬ 65535 < g j) : EqC V V' ↔ SameT n f k g := by
  have yvv : ∀ {W : Cell} {i : Nat} {x : Int32}, W.slots[i]? = some (.int x) → yv W i = x := fun q => by unfold yv; rw [q]
  rcases h with ⟨rfl, k1, k2⟩ | ⟨rfl, k1, k2, -⟩
  · rcases h' with ⟨-, m1, m2⟩ | ⟨e, -⟩
    · constructor
      · rintro ⟨e1, e2⟩
        refine ⟨by omega, fun j hj => ?_⟩
        have q := e2 j (by omega)
        rw [yvv (k2 j hj).1, yvv (m2 j (by omega)).1] at q
        exact lo8_inj (hf j hj).1 (k2 j hj).2 (hg j (by omega)).1 (m2 j (by omega)).2 q
      · rintro ⟨rfl, e2⟩
        refine ⟨by omega, fun j hj => ?_⟩
        rw [yvv (k2 j (by omega)).1, yvv (m2 j (by omega)).1, e2 j (by omega)]
    · exact absurd e (by decide)
  · rcases h' with ⟨e, -⟩ | ⟨-, m1, m2, -⟩
    · exact absurd e (by decide)
    · constructor
      · rintro ⟨e1, e2⟩
        refine ⟨by omega, fun j hj => ?_⟩
        have q1 := e2 (2 * j) (by omega)
        have q2 := e2 (2 * j + 1) (by omega)
        rw [yvv (k2 j hj).1, yvv (m2 j (by omega)).1] at q1
        rw [yvv (k2 j hj).2, yvv (m2 j (by omega)).2] at q2
        rw [← pair_says (hf j hj).1 (hf j hj).2, ← pair_says (hg j (by omega)).1 (hg j (by omega)).2, q1, q2]
      · rintro ⟨rfl, e2⟩
        refine ⟨by omega, fun i hi => ?_⟩
        rcases Nat.mod_two_eq_zero_or_one i with e | e
        · obtain ⟨j, rfl⟩ : ∃ j, i = 2 * j := ⟨i / 2, by omega⟩
          rw [yvv (k2 j (by omega)).1, yvv (m2 j (by omega)).1, e2 j (by omega)]
        · obtain ⟨j, rfl⟩ : ∃ j, i = 2 * j + 1 := ⟨i / 2, by omega⟩
          rw [yvv (k2 j (by omega)).2, yvv (m2 j (by omega)).2, e2 j (by omega)]
/-- two codings differ: so do the texts -/
theorem Cod.dif {cd cd' : Int32} {n k : Nat} {f g : Nat → Int32} {V V' : Cell} (h : Cod cd n f V) (h' : Cod cd' k g V') (hne : ¬ cd = cd') : ¬ SameT n f k g := by
  rintro ⟨rfl, e⟩
  rcases h with ⟨rfl, -, k2⟩ | ⟨rfl, -, -, j, hj, hw⟩
  · rcases h' with ⟨rfl, -⟩ | ⟨-, -, -, j, hj, hw⟩
    · exact hne rfl
    · exact (k2 j hj).2 (by rw [e j hj]; exact hw)
  · rcases h' with ⟨-, -, m2⟩ | ⟨rfl, -⟩
    · exact (m2 j hj).2 (by rw [← e j hj]; exact hw)
    · exact hne rfl
/-- an object of exactly C is an instance of C -/
theorem cinst {p : Program} {l : Launch} {e : Env} {R : Room} {s : State} {m : MethodId} {args : Array Value} {below : List Frame} {meth : Method} {c : Code} {T : State} {locs : List Loc} {cells slots : Nat} (X : Stand p l e R s m args below meth c T locs cells slots) (hexec : p.tables.exec = Jvm.exec) {own C : String} {index : Nat} (hown : s.vm.findClass own = some m.cls) (hlink : (Cond.classLink own index C).before args s = true) {a : Addr} (hE : Exact C a T)
    {g : JFrame} (hg : g.method = m) {rest : List Value} (hstack : g.stack = .ref a :: rest) (hdg : decode c.code g.pc = .ok (.instanceof index, 3)) :
    ∃ T', Stand p l e R s m args below meth c T' locs cells slots ∧ T'.heap = T.heap ∧ ∀ target, Steps p.tables e below (T'.setTop { g with pc := g.pc + 3, stack := .int 1 :: rest }) target → Steps p.tables e below (T.setTop g) target := by
  obtain ⟨cB, h1, D, h2, h3, h4⟩ := hE
  have h1' : s.vm.findClass C = some cB := by rw [← X.warmed.alike.findClass]; exact h1
  obtain ⟨vm', X', st⟩ := X.instanceofYes hexec hown hlink h2 h4 h1' (by rw [h3]; exact Jvm.Free.SB.assignable_self _ _) hg hstack hdg
  exact ⟨_, X', rfl, st⟩
theorem cself {p : Program} {l : Launch} {e : Env} {R : Room} {s : State} {m : MethodId} {args : Array Value} {below : List Frame} {meth : Method} {c : Code} {T : State} {locs : List Loc} {cells slots : Nat} (X : Stand p l e R s m args below meth c T locs cells slots) (hexec : p.tables.exec = Jvm.exec) {own C : String} {index : Nat} (hown : s.vm.findClass own = some m.cls) (hlink : (Cond.classLink own index C).before args s = true) {a : Addr} (hE : Exact C a T)
    {g : JFrame} (hg : g.method = m) {rest : List Value} (hstack : g.stack = .ref a :: rest) (hdg : decode c.code g.pc = .ok (.checkcast index, 3)) :
    ∃ T', Stand p l e R s m args below meth c T' locs cells slots ∧ T'.heap = T.heap ∧ ∀ target, Steps p.tables e below (T'.setTop { g with pc := g.pc + 3, stack := .ref a :: rest }) target → Steps p.tables e below (T.setTop g) target := by
  obtain ⟨cB, h1, D, h2, h3, h4⟩ := hE
  have h1' : s.vm.findClass C = some cB := by rw [← X.warmed.alike.findClass]; exact h1
  obtain ⟨vm', X', st⟩ := X.checkcastYes hexec hown hlink h2 h4 h1' (by rw [h3]; exact Jvm.Free.SB.assignable_self _ _) hg hstack hdg
  exact ⟨_, X', rfl, fun t h => st t (by rw [← hstack] at h; exact h)⟩
namespace SEq
def yN : MethodName := ⟨"java/lang/String", "equals", "(Ljava/lang/Object;)Z"⟩
abbrev yB : ByteArray := jdk_42_method_66_code
theorem d0 : decode yB 0 = .ok (.aload_n 0, 1) := by decide +kernel
theorem d1 : decode yB 1 = .ok (.aload_n 1, 1) := by decide +kernel
theorem d2 : decode yB 2 = .ok (.if_acmp (.ne) 5, 3) := by decide +kernel
theorem d5 : decode yB 5 = .ok (.iconst 1, 1) := by decide +kernel
theorem d6 : decode yB 6 = .ok (.ireturn, 1) := by decide +kernel
theorem d7 : decode yB 7 = .ok (.aload_n 1, 1) := by decide +kernel
theorem d8 : decode yB 8 = .ok (.instanceof 10, 3) := by decide +kernel
theorem d11 : decode yB 11 = .ok (.ifCond (.eq) 43, 3) := by decide +kernel
theorem d14 : decode yB 14 = .ok (.aload_n 1, 1) := by decide +kernel
theorem d15 : decode yB 15 = .ok (.checkcast 10, 3) := by decide +kernel
theorem d18 : decode yB 18 = .ok (.astore_n 2, 1) := by decide +kernel
theorem d19 : decode yB 19 = .ok (.getstatic 38, 3) := by decide +kernel
theorem d22 : decode yB 22 = .ok (.ifCond (.eq) 14, 3) := by decide +kernel
theorem d25 : decode yB 25 = .ok (.aload_n 0, 1) := by decide +kernel
theorem d26 : decode yB 26 = .ok (.getfield 15, 3) := by decide +kernel
theorem d29 : decode yB 29 = .ok (.aload_n 2, 1) := by decide +kernel
theorem d30 : decode yB 30 = .ok (.getfield 15, 3) := by decide +kernel
theorem d33 : decode yB 33 = .ok (.if_icmp (.ne) 21, 3) := by decide +kernel
theorem d36 : decode yB 36 = .ok (.aload_n 0, 1) := by decide +kernel
theorem d37 : decode yB 37 = .ok (.getfield 9, 3) := by decide +kernel
theorem d40 : decode yB 40 = .ok (.aload_n 2, 1) := by decide +kernel
theorem d41 : decode yB 41 = .ok (.getfield 9, 3) := by decide +kernel
theorem d44 : decode yB 44 = .ok (.invokestatic 541, 3) := by decide +kernel
theorem d47 : decode yB 47 = .ok (.ifCond (.eq) 7, 3) := by decide +kernel
theorem d50 : decode yB 50 = .ok (.iconst 1, 1) := by decide +kernel
theorem d51 : decode yB 51 = .ok (.goto 4, 3) := by decide +kernel
theorem d54 : decode yB 54 = .ok (.iconst 0, 1) := by decide +kernel
theorem d55 : decode yB 55 = .ok (.ireturn, 1) := by decide +kernel
def site : List Cond := [.classLink "java/lang/String" 10 "java/lang/String", .fieldLink "java/lang/String" 38 "java/lang/String" "COMPACT_STRINGS" "Z", .fieldLink "java/lang/String" 15 "java/lang/String" "coder" "B", .fieldLink "java/lang/String" 9 "java/lang/String" "value" "[B", LEq.tab] ++ staticW "java/lang/String" 541 LEq.yN
def tab : Cond := tabOf yN yB 3 (some .boolean) site
def P (x t : Addr) (V : Cell) (cd : Int32) (n : Nat) (f : Nat → Int32) (y t' : Addr) (V' : Cell) (cd' : Int32) (k : Nat) (g : Nat → Int32) (z : Int32) (args : Array Value) (s : State) : Prop := args = #[.ref x, .ref y] ∧ Txt x t V cd n f s ∧ Txt y t' V' cd' k g s ∧ StaticIs s "java/lang/String" "COMPACT_STRINGS" "Z" (.int z) ∧ ¬ z = 0
/-- equals(Object) of two Strings: whether the texts are the same -/
theorem law (l : Launch) (x t : Addr) (V : Cell) (cd : Int32) (n : Nat) (f : Nat → Int32) (y t' : Addr) (V' : Cell) (cd' : Int32) (k : Nat) (g : Nat → Int32) (z : Int32) : Law l yN 2 1 1 14 yB 3 (some .boolean) site (P x t V cd n f y t' V' cd' k g z) (Says01 (SameT n f k g)) [] 0 0 := by
  refine Law.of_walk (plainFor_of_name (by decide +kernel)) (by decide +kernel) (by decide +kernel) (by decide) (fun _ _ h => by rw [h.1]; rfl) (fun _ U U' hal hh h => ⟨h.1, h.2.1.mv hal hh, h.2.2.1.mv hal hh, h.2.2.2.1.there hal hh, h.2.2.2.2⟩) (fun r U U' V V' h1 hal h2 h => Says01.mv r U U' V V' h1 hal h2 h) ?_
  intro p e s m args below meth c s₁ X0 hexec hbytes hml hret hlk hnm hown hh0 W hP
  obtain ⟨rfl, hx, hy, s1, hz⟩ := hP
  have c1 : Steps p.tables e below (s₁.setTop (entryFrame m #[.ref x, .ref y] 3)) (s₁.setTop (mkF m 2 #[.val (.ref x), .val (.ref y), .unset] [.ref y, .ref x])) := Steps.trans (entry rfl) (by
    show Steps p.tables e below (s₁.setTop (mkF m 0 #[.val (.ref x), .val (.ref y), .unset] [])) _
    refine XS.aloadN X0.here hexec rfl (hb hbytes d0) rfl rfl ?_
    refine XS.aloadN X0.here hexec rfl (hb hbytes d1) rfl rfl ?_
    exact Steps.refl _)
  by_cases hxy : x = y
  · have c2 : Steps p.tables e below (s₁.setTop (entryFrame m #[.ref x, .ref y] 3)) (s₁.setTop (mkF m 6 #[.val (.ref x), .val (.ref y), .unset] [.int 1])) := c1.trans (by
      refine acmpNo X0.here hexec rfl (hb hbytes d2) rfl rfl rfl (by simp [acmp, hxy]) ?_
      refine iconstV X0.here hexec rfl 1 (hb hbytes d5) (by decide) ?_
      exact Steps.refl _)
    subst hxy
    have ec : cd = cd' := by
      obtain ⟨D, fd, a1, a2, a3⟩ := hx.2.2.1
      obtain ⟨D', fd', b1, b2, b3⟩ := hy.2.2.1
      cases a1.symm.trans b1
      obtain ⟨q1, q2, q3, q4⟩ := a2.1
      obtain ⟨r1, r2, r3, r4⟩ := b2.1
      cases q4.symm.trans r4
      cases a3.symm.trans b3; rfl
    have et : t = t' := by
      obtain ⟨D, fd, a1, a2, a3⟩ := hx.2.1
      obtain ⟨D', fd', b1, b2, b3⟩ := hy.2.1
      cases a1.symm.trans b1
      obtain ⟨q1, q2, q3, q4⟩ := a2.1
      obtain ⟨r1, r2, r3, r4⟩ := b2.1
      cases q4.symm.trans r4
      cases a3.symm.trans b3; rfl
    subst ec et
    have ev : V = V' := by cases hx.2.2.2.1.1.symm.trans hy.2.2.2.1.1; rfl
    subst ev
    have hs : SameT n f k g := (Cod.eqv hx.2.2.2.2.1 hy.2.2.2.2.1 hx.2.2.2.2.2 hy.2.2.2.2.2).mp ⟨rfl, fun _ _ => rfl⟩
    exact ⟨s₁, some (.int 1), _, _, _, X0, rfl, rfl, rfl, (fun h => by cases h), ⟨1, rfl, hh0, Or.inl ⟨rfl, hs⟩⟩, fun fs hl => c2.trans (X0.ireturnOut hexec hret rfl (Or.inr (Or.inl rfl)) (hb hbytes d6) hl)⟩
  · have c2 : Steps p.tables e below (s₁.setTop (entryFrame m #[.ref x, .ref y] 3)) (s₁.setTop (mkF m 8 #[.val (.ref x), .val (.ref y), .unset] [.ref y])) := c1.trans (by
      refine acmpYes X0.here hexec rfl (pc0 := 2) rfl (hb hbytes d2) rfl rfl rfl (by simp [acmp, hxy]) (by decide) rfl ?_
      refine XS.aloadN X0.here hexec rfl (hb hbytes d7) rfl rfl ?_
      exact Steps.refl _)
    obtain ⟨T3, X3, q3, st3⟩ := cinst X0 hexec hown (wk W (.classLink "java/lang/String" 10 "java/lang/String")) (hy.mv X0.warmed.alike hh0).1 (g := (mkF m 8 #[.val (.ref x), .val (.ref y), .unset] [.ref y])) rfl (rest := []) rfl (hb hbytes d8)
    have hh3 := q3.trans hh0
    have c4 : Steps p.tables e below (s₁.setTop (entryFrame m #[.ref x, .ref y] 3)) (T3.setTop (mkF m 15 #[.val (.ref x), .val (.ref y), .unset] [.ref y])) := (c2.trans (st3 _ (Steps.refl _))).trans (by
      refine XS.ifNo X3.here hexec rfl (hb hbytes d11) rfl (i0_eq_f (by decide)) ?_
      refine XS.aloadN X3.here hexec rfl (hb hbytes d14) rfl rfl ?_
      exact Steps.refl _)
    obtain ⟨T5, X5, q5, st5⟩ := cself X3 hexec hown (wk W (.classLink "java/lang/String" 10 "java/lang/String")) (hy.mv X3.warmed.alike hh3).1 (g := (mkF m 15 #[.val (.ref x), .val (.ref y), .unset] [.ref y])) rfl (rest := []) rfl (hb hbytes d15)
    have hh5 := q5.trans hh3
    have c6 : Steps p.tables e below (s₁.setTop (entryFrame m #[.ref x, .ref y] 3)) (T5.setTop (mkF m 19 #[.val (.ref x), .val (.ref y), .val (.ref y)] [])) := (c4.trans (st5 _ (Steps.refl _))).trans (by
      refine XS.astoreN X5.here hexec rfl (hb hbytes d18) rfl rfl rfl ?_
      exact Steps.refl _)
    obtain ⟨T7, X7, q7, st7⟩ := X5.sget hexec hown (wk W (.fieldLink "java/lang/String" 38 "java/lang/String" "COMPACT_STRINGS" "Z")) s1 (fun _ _ h => by rw [hh5]; exact h) (g := (mkF m 19 #[.val (.ref x), .val (.ref y), .val (.ref y)] [])) rfl (hb hbytes d19)
    have hh7 := q7.trans hh5
    have c8 : Steps p.tables e below (s₁.setTop (entryFrame m #[.ref x, .ref y] 3)) (T7.setTop (mkF m 26 #[.val (.ref x), .val (.ref y), .val (.ref y)] [.ref x])) := (c6.trans (st7 _ (Steps.refl _))).trans (by
      refine XS.ifNo X7.here hexec rfl (hb hbytes d22) rfl (i0_eq_f hz) ?_
      refine XS.aloadN X7.here hexec rfl (hb hbytes d25) rfl rfl ?_
      exact Steps.refl _)
    obtain ⟨T9, X9, q9, st9⟩ := X7.hget hexec hown (wk W (.fieldLink "java/lang/String" 15 "java/lang/String" "coder" "B")) (hx.mv X7.warmed.alike hh7).2.2.1 (g := (mkF m 26 #[.val (.ref x), .val (.ref y), .val (.ref y)] [.ref x])) rfl (rest := []) rfl (hb hbytes d26)
    have hh9 := q9.trans hh7
    have c10 : Steps p.tables e below (s₁.setTop (entryFrame m #[.ref x, .ref y] 3)) (T9.setTop (mkF m 30 #[.val (.ref x), .val (.ref y), .val (.ref y)] [.ref y, .int cd])) := (c8.trans (st9 _ (Steps.refl _))).trans (by
      refine XS.aloadN X9.here hexec rfl (hb hbytes d29) rfl rfl ?_
      exact Steps.refl _)
    obtain ⟨T11, X11, q11, st11⟩ := X9.hget hexec hown (wk W (.fieldLink "java/lang/String" 15 "java/lang/String" "coder" "B")) (hy.mv X9.warmed.alike hh9).2.2.1 (g := (mkF m 30 #[.val (.ref x), .val (.ref y), .val (.ref y)] [.ref y, .int cd])) rfl (rest := [.int cd]) rfl (hb hbytes d30)
    have hh11 := q11.trans hh9
    have c12 : Steps p.tables e below (s₁.setTop (entryFrame m #[.ref x, .ref y] 3)) (T11.setTop (mkF m 33 #[.val (.ref x), .val (.ref y), .val (.ref y)] [.int cd', .int cd])) := c10.trans (st11 _ (Steps.refl _))
    by_cases hcd : cd = cd'
    · subst hcd
      have c13 : Steps p.tables e below (s₁.setTop (entryFrame m #[.ref x, .ref y] 3)) (T11.setTop (mkF m 37 #[.val (.ref x), .val (.ref y), .val (.ref y)] [.ref x])) := c12.trans (by
        refine XS.icmpNo X11.here hexec rfl (hb hbytes d33) rfl (ii_ne_f rfl) ?_
        refine XS.aloadN X11.here hexec rfl (hb hbytes d36) rfl rfl ?_
        exact Steps.refl _)
      obtain ⟨T14, X14, q14, st14⟩ := X11.hget hexec hown (wk W (.fieldLink "java/lang/String" 9 "java/lang/String" "value" "[B")) (hx.mv X11.warmed.alike hh11).2.1 (g := (mkF m 37 #[.val (.ref x), .val (.ref y), .val (.ref y)] [.ref x])) rfl (rest := []) rfl (hb hbytes d37)
      have hh14 := q14.trans hh11
      have c15 : Steps p.tables e below (s₁.setTop (entryFrame m #[.ref x, .ref y] 3)) (T14.setTop (mkF m 41 #[.val (.ref x), .val (.ref y), .val (.ref y)] [.ref y, .ref t])) := (c13.trans (st14 _ (Steps.refl _))).trans (by
        refine XS.aloadN X14.here hexec rfl (hb hbytes d40) rfl rfl ?_
        exact Steps.refl _)
      obtain ⟨T16, X16, q16, st16⟩ := X14.hget hexec hown (wk W (.fieldLink "java/lang/String" 9 "java/lang/String" "value" "[B")) (hy.mv X14.warmed.alike hh14).2.1 (g := (mkF m 41 #[.val (.ref x), .val (.ref y), .val (.ref y)] [.ref y, .ref t])) rfl (rest := [.ref t]) rfl (hb hbytes d41)
      have hh16 := q16.trans hh14
      have c17 : Steps p.tables e below (s₁.setTop (entryFrame m #[.ref x, .ref y] 3)) (T16.setTop (mkF m 44 #[.val (.ref x), .val (.ref y), .val (.ref y)] [.ref t', .ref t])) := c15.trans (st16 _ (Steps.refl _))
      obtain ⟨v18, T18, X18, E18, g18⟩ := X16.callS hexec (LEq.law l t V t' V') hown (wks W (staticW "java/lang/String" 541 LEq.yN)) (wk W LEq.tab) (W := 0) (Nat.le_of_ble_eq_true rfl) (Nat.le_of_ble_eq_true rfl) (Nat.le_refl _) (Nat.le_refl _) (g := (mkF m 44 #[.val (.ref x), .val (.ref y), .val (.ref y)] [.ref t', .ref t])) rfl (by rw [hml]; rfl) c17 (argsL := [.ref t, .ref t']) (rest := []) rfl rfl (by show 2 * 0 + 0 ≤ _; decide) (hb hbytes d44) (⟨rfl, hx.2.2.2.1.mv X16.warmed.alike hh16, hx.2.2.2.2.1.ty, hy.2.2.2.1.mv X16.warmed.alike hh16, hy.2.2.2.2.1.ty⟩)
      obtain ⟨v, rfl, q18, hv⟩ := E18
      have iff := Cod.eqv hx.2.2.2.2.1 hy.2.2.2.2.1 hx.2.2.2.2.2 hy.2.2.2.2.2
      rcases hv with ⟨rfl, he⟩ | ⟨rfl, he⟩
      · have c19 : Steps p.tables e below (s₁.setTop (entryFrame m #[.ref x, .ref y] 3)) (T18.setTop (mkF m 55 #[.val (.ref x), .val (.ref y), .val (.ref y)] [.int 1])) := Steps.trans g18 (by
          refine XS.ifNo X18.here hexec rfl (hb hbytes d47) rfl (i0_eq_f (by decide)) ?_
          refine iconstV X18.here hexec rfl 1 (hb hbytes d50) (by decide) ?_
          refine XS.goto X18.here hexec rfl (pc0 := 51) rfl (hb hbytes d51) (by decide) rfl ?_
          exact Steps.refl _)
        exact ⟨T18, some (.int 1), _, _, _, X18, rfl, rfl, rfl, (fun h => by cases h), ⟨1, rfl, q18.trans hh16, Or.inl ⟨rfl, iff.mp he⟩⟩, fun fs hl => c19.trans (X18.ireturnOut hexec hret rfl (Or.inr (Or.inl rfl)) (hb hbytes d55) hl)⟩
      · have c19 : Steps p.tables e below (s₁.setTop (entryFrame m #[.ref x, .ref y] 3)) (T18.setTop (mkF m 55 #[.val (.ref x), .val (.ref y), .val (.ref y)] [.int 0])) := Steps.trans g18 (by
          refine XS.ifYes X18.here hexec rfl (pc0 := 47) rfl (hb hbytes d47) rfl (i0_eq_t rfl) (by decide) rfl ?_
          refine iconstV X18.here hexec rfl 0 (hb hbytes d54) (by decide) ?_
          exact Steps.refl _)
        exact ⟨T18, some (.int 0), _, _, _, X18, rfl, rfl, rfl, (fun h => by cases h), ⟨0, rfl, q18.trans hh16, Or.inr ⟨rfl, fun q => he (iff.mpr q)⟩⟩, fun fs hl => c19.trans (X18.ireturnOut hexec hret rfl (Or.inr (Or.inl rfl)) (hb hbytes d55) hl)⟩
    · have c13 : Steps p.tables e below (s₁.setTop (entryFrame m #[.ref x, .ref y] 3)) (T11.setTop (mkF m 55 #[.val (.ref x), .val (.ref y), .val (.ref y)] [.int 0])) := c12.trans (by
        refine XS.icmpYes X11.here hexec rfl (pc0 := 33) rfl (hb hbytes d33) rfl (ii_ne_t hcd) (by decide) rfl ?_
        refine iconstV X11.here hexec rfl 0 (hb hbytes d54) (by decide) ?_
        exact Steps.refl _)
      exact ⟨T11, some (.int 0), _, _, _, X11, rfl, rfl, rfl, (fun h => by cases h), ⟨0, rfl, hh11, Or.inr ⟨rfl, Cod.dif hx.2.2.2.2.1 hy.2.2.2.2.1 hcd⟩⟩, fun fs hl => c13.trans (X11.ireturnOut hexec hret rfl (Or.inr (Or.inl rfl)) (hb hbytes d55) hl)⟩
theorem pays {l : Launch} {R : Room} {p : Program} {e : Env} {below : List Frame} {s : State} {sargs : Array Value} {len W : Nat} (x t : Addr) (V : Cell) (cd : Int32) (n : Nat) (f : Nat → Int32) (y t' : Addr) (V' : Cell) (cd' : Int32) (k : Nat) (g : Nat → Int32) (z : Int32) (htab : tab.before sargs s = true) (hfr : 2 ≤ R.frames) (hlo : W + 28 ≤ R.locals) :
    Back l R p e below s sargs yN len W (fun A₁ a₁ => A₁.cells + 0 ≤ R.cells ∧ A₁.slots + 0 ≤ R.slots ∧ P x t V cd n f y t' V' cd' k g z a₁ A₁.U) (fun A₁ _ v₁ B₁ => Says01 (SameT n f k g) v₁ A₁.U B₁.U ∧ B₁.locs = A₁.locs ++ [] ∧ B₁.cells = A₁.cells + 0 ∧ B₁.slots = A₁.slots + 0) :=
  (law l x t V cd n f y t' V' cd' k g z).pays htab hfr (by omega)
end SEq
end StrChars
namespace StrChars.Road
open Jvm Sem ClassFile Op Lib Jvm.Stand Jvm.Free Jvm.Free.XT
open Jvm.Lib.Cold (StaticIs)
/-- the words of String.equals(Object) -/
abbrev wordsEq : List Jvm.Cond := [.code SEq.yN SEq.yB 3 (some .boolean), .initialized ST, .classLink ST 10 ST, .fieldLink ST 38 ST "COMPACT_STRINGS" "Z", .fieldLink ST 15 ST "coder" "B", .fieldLink ST 9 ST "value" "[B", .methodLink ST 541 LEq.yN, .static LEq.yN, .code LEq.yN LEq.yB 3 (some .boolean), .initialized "java/lang/StringLatin1"]
theorem tabEq_of {a : Array Value} {s : State} (h : ∀ w ∈ wordsEq, w.before a s = true) : SEq.tab.before a s = true := by
  have hl : LEq.tab.before a s = true := unparts (wk h (.code LEq.yN LEq.yB 3 (some .boolean))) (wks h (.initialized LEq.yN.cls :: LEq.site))
  have q := consq hl h
  exact unparts (wk q (.code SEq.yN SEq.yB 3 (some .boolean))) (wks q (.initialized SEq.yN.cls :: SEq.site))
theorem movedEq {Z s : State} {a0 args : Array Value} (hZ : Z.Warmed39 s.vm) (hw : ∀ d ∈ wordsEq, d.before a0 Z = true) : ∀ d ∈ wordsEq, d.before args s = true := fun d hd => by
  have t : ∀ d ∈ wordsEq, (d.onTables && d.keepsFace) = true := by decide +kernel
  exact RoadKit.mv hZ (hw d hd) (t d hd)
/-- the road's facts of a String, as the laws ask it -/
theorem txt_of {Z U : State} {a0 : Array Value} {kI : Nat} (wi : (Jvm.Cond.instantiable ST kI).before a0 Z = true) (al : Z.vm.Alike U.vm) {x t : Addr} {kb : ClassId} {cs : List Int32} {cd N2 : Int32} {vs : List Value} (E : RoadKit.Exa Z U.heap x ST) (V : RoadKit.Fld Z U.heap x ST "value" "[B" (.ref t)) (C : RoadKit.Fld Z U.heap x ST "coder" "B" (.int cd)) (K : RoadKit.Arv Z U.heap t kb .byte N2 vs (.int 0)) (hc : CodA cs cd N2 vs) (hb : ∀ c ∈ cs, ¬ c < 0 ∧ ¬ (65535 : Int32) < c) (l2 : cs.length ≤ 4000) :
    ∃ A, Txt x t A cd cs.length (fun j => cs.getD j 0) U := by
  obtain ⟨A, K1, K2, K3, K4, K5, K6⟩ := K
  have hcod := hc.cod (by omega) K3 K5
  obtain ⟨D, fV, fC, hB, F1, F2, g1, g2, -, -⟩ := strObj wi al E V C
  exact ⟨A, ⟨_, hB.2.2.1, D, hB.1, rfl, by cases q : D.vm <;> first | rfl | exact absurd q (hB.2.1.2 _)⟩, Has.of hB F1 g1, Has.of hB F2 g2, ⟨K1.1, State.isArrayOf_alike al K1.2.1, K1.2.2, by rcases hcod with ⟨-, q, -⟩ | ⟨-, q, -⟩ <;> omega⟩, hcod, fun j hj => by
    have e : cs.getD j 0 = cs[j] := by simp [List.getD_eq_getElem?_getD, hj]
    show ¬ cs.getD j 0 < 0 ∧ ¬ 65535 < cs.getD j 0
    rw [e]; exact hb _ (List.getElem_mem _)⟩
theorem same_list (cs ds : List Int32) : SameT cs.length (fun j => cs.getD j 0) ds.length (fun j => ds.getD j 0) ↔ cs = ds := by
  constructor
  · rintro ⟨e, q⟩
    refine List.ext_getElem e fun j h1 h2 => ?_
    have := q j h1
    simpa [List.getD_eq_getElem?_getD, h1, h2] using this
  · rintro rfl
    exact ⟨rfl, fun _ _ => rfl⟩
/-- **equals(Object) OF TWO SUCH STRINGS**: 1 just where the chars are the same -/
theorem eqW {p : Program} {l : Launch} {e : Env} {R : Room} {s : State} {args : Array Value} {below : List Frame} {len W : Nat} {Z : State} {a0 : Array Value} {h : Heap} (hZ : Z.Warmed39 s.vm) (hw : ∀ d ∈ wordsEq, d.before a0 Z = true) {kI : Nat} (wi : (Jvm.Cond.instantiable ST kI).before a0 Z = true)
    {x t : Addr} {kb : ClassId} {cs : List Int32} {cd N2 : Int32} {vs : List Value} (E : RoadKit.Exa Z h x ST) (V : RoadKit.Fld Z h x ST "value" "[B" (.ref t)) (C : RoadKit.Fld Z h x ST "coder" "B" (.int cd)) (K : RoadKit.Arv Z h t kb .byte N2 vs (.int 0)) (hc : CodA cs cd N2 vs) (hb : ∀ c ∈ cs, ¬ c < 0 ∧ ¬ (65535 : Int32) < c) (l2 : cs.length ≤ 4000)
    {y t' : Addr} {kb' : ClassId} {ds : List Int32} {cd' N2' : Int32} {vs' : List Value} (E' : RoadKit.Exa Z h y ST) (V' : RoadKit.Fld Z h y ST "value" "[B" (.ref t')) (C' : RoadKit.Fld Z h y ST "coder" "B" (.int cd')) (K' : RoadKit.Arv Z h t' kb' .byte N2' vs' (.int 0)) (hc' : CodA ds cd' N2' vs') (hb' : ∀ c ∈ ds, ¬ c < 0 ∧ ¬ (65535 : Int32) < c) (l2' : ds.length ≤ 4000)
    {z : Int32} (S : RoadKit.Sta Z h ST "COMPACT_STRINGS" "Z" (.int z)) (hz : ¬ z = 0) (hfr : 2 ≤ R.frames) (hlo : W + 28 ≤ R.locals) :
    Back l R p e below s args (⟨"java/lang/String", "equals", "(Ljava/lang/Object;)Z"⟩ : MethodName) len W (fun P a => a = #[.ref x, .ref y] ∧ P.U.heap = h ∧ P.cells + 0 ≤ R.cells ∧ P.slots + 0 ≤ R.slots)
      (fun P _ v B => ∃ L, (((v = some (.int 1) ∧ cs = ds) ∨ (v = some (.int 0) ∧ ¬ cs = ds)) ∧ L = [] ∧ B.U.heap = h) ∧ B.locs = P.locs ++ L ∧ B.cells = P.cells + 0 ∧ B.slots = P.slots + 0) := by
  intro m meth c P g ig mk a X hg hsize hdg hW hn hp'
  obtain ⟨rfl, rfl, r1, r2⟩ := hp'
  have al : Z.vm.Alike P.U.vm := hZ.alike.trans X.warmed.alike
  obtain ⟨A, hx⟩ := txt_of wi al E V C K hc hb l2
  obtain ⟨A', hy⟩ := txt_of wi al E' V' C' K' hc' hb' l2'
  obtain ⟨v, B, X', ⟨⟨w, hv, hh, hq⟩, hl, hk, hs⟩, st⟩ := SEq.pays x t A cd cs.length (fun j => cs.getD j 0) y t' A' cd' ds.length (fun j => ds.getD j 0) z (tabEq_of (movedEq hZ hw)) hfr hlo m meth c P g ig mk _ X hg hsize hdg hW hn ⟨r1, r2, rfl, hx, hy, sta_is al S, hz⟩
  refine ⟨v, B, X', ⟨[], ⟨?_, rfl, hh⟩, hl, hk, hs⟩, st⟩
  rcases hq with ⟨rfl, q⟩ | ⟨rfl, q⟩
  · exact Or.inl ⟨hv, (same_list cs ds).mp q⟩
  · exact Or.inr ⟨hv, fun e => q ((same_list cs ds).mpr e)⟩
end StrChars.Road
namespace StrChars
open Jvm Sem ClassFile Op Lib Jvm.Stand Jvm.Free.XT Jvm.Free.ALB Jvm.Free.JM Jvm.Free
open Jvm.Lib.Cold (StaticIs)
namespace ChN
def yN : MethodName := ⟨"java/lang/String", "charAt", "(I)C"⟩
abbrev yB : ByteArray := jdk_42_method_56_code
theorem d0 : decode yB 0 = .ok (.aload_n 0, 1) := by decide +kernel
theorem d1 : decode yB 1 = .ok (.invokevirtual 492, 3) := by decide +kernel
theorem d4 : decode yB 4 = .ok (.ifCond (.eq) 12, 3) := by decide +kernel
theorem d7 : decode yB 7 = .ok (.aload_n 0, 1) := by decide +kernel
theorem d8 : decode yB 8 = .ok (.getfield 9, 3) := by decide +kernel
theorem d11 : decode yB 11 = .ok (.iload_n 1, 1) := by decide +kernel
theorem d12 : decode yB 12 = .ok (.invokestatic 495, 3) := by decide +kernel
theorem d15 : decode yB 15 = .ok (.ireturn, 1) := by decide +kernel
def site : List Cond := [.fieldLink "java/lang/String" 9 "java/lang/String" "value" "[B", IsL.tab, LChA.tab] ++ virtW "java/lang/String" 492 "java/lang/String" IsL.yN IsL.yN ++ staticW "java/lang/String" 495 LChA.yN
def tab : Cond := tabOf yN yB 2 (some .char) site
def P (x t : Addr) (V : Cell) (n : Nat) (f : Nat → Int32) (z : Int32) (fm : Value) (i : Nat) (args : Array Value) (s : State) : Prop := args = #[.ref x, .int (Int32.ofNat i)] ∧ Txt x t V 0 n f s ∧ i < n ∧ StaticIs s "java/lang/String" "COMPACT_STRINGS" "Z" (.int z) ∧ ¬ z = 0 ∧ StaticIs s "jdk/internal/util/Preconditions" "SIOOBE_FORMATTER" "Ljava/util/function/BiFunction;" fm ∧ fm.isRef = true
def E (f : Nat → Int32) (i : Nat) (r : Option Value) (s u : State) : Prop := XT.PureE (some (.int (f i))) r s u
/-- charAt(i) of a Latin-1 String of n chars, i < n: f i -/
theorem law (l : Launch) (x t : Addr) (V : Cell) (n : Nat) (f : Nat → Int32) (z : Int32) (fm : Value) (i : Nat) : Law l yN 2 1 3 40 yB 2 (some .char) site (P x t V n f z fm i) (E f i) [] 0 0 := by
  refine Law.of_walk (plainFor_of_name (by decide +kernel)) (by decide +kernel) (by decide +kernel) (by decide) (fun _ _ h => by rw [h.1]; rfl) (fun _ U U' hal hh h => ⟨h.1, h.2.1.mv hal hh, h.2.2.1, h.2.2.2.1.there hal hh, h.2.2.2.2.1, h.2.2.2.2.2.1.there hal hh, h.2.2.2.2.2.2⟩) (fun r U U' V V' h1 hal h2 h => XT.PureE.mv r U U' V V' h1 hal h2 h) ?_
  intro p e s m args below meth c s₁ X0 hexec hbytes hml hret hlk hnm hown hh0 W hP
  obtain ⟨rfl, hx, hi, s1, hz, s3, rf⟩ := hP
  have v31 := hx.2.2.2.1.2.2.2
  have hr := hx.2.2.2.2.2 i hi
  have hx0 := hx.mv X0.warmed.alike hh0
  have c1 : Steps p.tables e below (s₁.setTop (entryFrame m #[.ref x, .int (Int32.ofNat i)] 2)) (s₁.setTop (mkF m 1 #[.val (.ref x), .val (.int (Int32.ofNat i))] [.ref x])) := Steps.trans (entry rfl) (by
    show Steps p.tables e below (s₁.setTop (mkF m 0 #[.val (.ref x), .val (.int (Int32.ofNat i))] [])) _
    refine XS.aloadN X0.here hexec rfl (hb hbytes d0) rfl rfl ?_
    exact Steps.refl _)
  obtain ⟨v2, T2, X2, E2, g2⟩ := X0.callV hexec (IsL.law l x 0 z) hown (wks W (virtW "java/lang/String" 492 "java/lang/String" IsL.yN IsL.yN)) rfl (by decide) (wk W IsL.tab) (W := 0) (Nat.le_of_ble_eq_true rfl) (Nat.le_of_ble_eq_true rfl) (Nat.le_refl _) (Nat.le_refl _) (hx0.1.fc X0.warmed.alike) hx0.1.is (g := (mkF m 1 #[.val (.ref x), .val (.int (Int32.ofNat i))] [.ref x])) rfl (by rw [hml]; rfl) c1 (argsL := []) (rest := []) rfl rfl (by show 2 * 0 + 0 ≤ _; decide) (hb hbytes d1) (⟨rfl, hx0.2.2.1, hx.2.2.2.2.1.cd, s1.there X0.warmed.alike hh0, hz⟩)
  obtain ⟨rfl, q2⟩ := E2
  have hh2 := q2.trans hh0
  have hx2 := hx.mv X2.warmed.alike hh2
  obtain ⟨-, k1, k2⟩ | ⟨k0, -⟩ := hx.2.2.2.2.1
  · have c3 : Steps p.tables e below (s₁.setTop (entryFrame m #[.ref x, .int (Int32.ofNat i)] 2)) (T2.setTop (mkF m 8 #[.val (.ref x), .val (.int (Int32.ofNat i))] [.ref x])) := Steps.trans g2 (by
      refine XS.ifNo X2.here hexec rfl (hb hbytes d4) rfl (i0_eq_f (by decide)) ?_
      refine XS.aloadN X2.here hexec rfl (hb hbytes d7) rfl rfl ?_
      exact Steps.refl _)
    obtain ⟨T4, X4, q4, st4⟩ := X2.hget hexec hown (wk W (.fieldLink "java/lang/String" 9 "java/lang/String" "value" "[B")) hx2.2.1 (g := (mkF m 8 #[.val (.ref x), .val (.int (Int32.ofNat i))] [.ref x])) rfl (rest := []) rfl (hb hbytes d8)
    have hh4 := q4.trans hh2
    have c5 : Steps p.tables e below (s₁.setTop (entryFrame m #[.ref x, .int (Int32.ofNat i)] 2)) (T4.setTop (mkF m 12 #[.val (.ref x), .val (.int (Int32.ofNat i))] [.int (Int32.ofNat i), .ref t])) := (c3.trans (st4 _ (Steps.refl _))).trans (by
      refine XS.iloadN X4.here hexec rfl (hb hbytes d11) rfl ?_
      exact Steps.refl _)
    obtain ⟨v6, T6, X6, E6, g6⟩ := X4.callS hexec (LChA.law l t V i (lo8 (f i)) fm) hown (wks W (staticW "java/lang/String" 495 LChA.yN)) (wk W LChA.tab) (W := 0) (Nat.le_of_ble_eq_true rfl) (Nat.le_of_ble_eq_true rfl) (Nat.le_refl _) (Nat.le_refl _) (g := (mkF m 12 #[.val (.ref x), .val (.int (Int32.ofNat i))] [.int (Int32.ofNat i), .ref t])) rfl (by rw [hml]; rfl) c5 (argsL := [.ref t, .int (Int32.ofNat i)]) (rest := []) rfl rfl (by show 2 * 0 + 0 ≤ _; decide) (hb hbytes d12) (⟨rfl, hx.2.2.2.1.mv X4.warmed.alike hh4, (k2 i hi).1, s3.there X4.warmed.alike hh4, rf⟩)
    obtain ⟨rfl, q6⟩ := E6
    rw [chr8_lo8 hr.1 (k2 i hi).2] at g6
    exact ⟨T6, some (.int (f i)), _, _, _, X6, rfl, rfl, rfl, (fun h => by cases h), ⟨rfl, q6.trans hh4⟩, fun fs hl => Steps.trans g6 (X6.ireturnOut hexec hret (narrow_ch hr.1 hr.2) (Or.inr (Or.inr (Or.inr (Or.inl rfl)))) (hb hbytes d15) hl)⟩
  · exact absurd k0 (by decide)
theorem pays {l : Launch} {R : Room} {p : Program} {e : Env} {below : List Frame} {s : State} {sargs : Array Value} {len W : Nat} (x t : Addr) (V : Cell) (n : Nat) (f : Nat → Int32) (z : Int32) (fm : Value) (i : Nat) (htab : tab.before sargs s = true) (hfr : 4 ≤ R.frames) (hlo : W + 53 ≤ R.locals) :
    Back l R p e below s sargs yN len W (fun A₁ a₁ => A₁.cells + 0 ≤ R.cells ∧ A₁.slots + 0 ≤ R.slots ∧ P x t V n f z fm i a₁ A₁.U) (fun A₁ _ v₁ B₁ => E f i v₁ A₁.U B₁.U ∧ B₁.locs = A₁.locs ++ [] ∧ B₁.cells = A₁.cells + 0 ∧ B₁.slots = A₁.slots + 0) :=
  (law l x t V n f z fm i).pays htab hfr (by omega)
end ChN
end StrChars
namespace StrChars.Road
open Jvm Sem ClassFile Op Lib Jvm.Stand Jvm.Free Jvm.Free.XT
open Jvm.Lib.Cold (StaticIs)
/-- the words of String.charAt(int), the Latin-1 road alone -/
abbrev wordsChN : List Jvm.Cond := [.code ChN.yN ChN.yB 2 (some .char), .initialized ST, .fieldLink ST 9 ST "value" "[B", .fieldLink ST 38 ST "COMPACT_STRINGS" "Z", .fieldLink ST 15 ST "coder" "B", .code IsL.yN IsL.yB 1 (some .boolean), .methodLink ST 492 IsL.yN, .declares IsL.yN, .selects ST IsL.yN IsL.yN, .instanceMethod IsL.yN,
  .methodLink ST 495 LChA.yN, .static LChA.yN, .code LChA.yN LChA.yB 2 (some .char), .initialized "java/lang/StringLatin1", .methodLink "java/lang/StringLatin1" 9 JO.Str_checkIndex.yN, .static JO.Str_checkIndex.yN, .code JO.Str_checkIndex.yN JO.Str_checkIndex.yB 2 none,
  .fieldLink ST 1053 "jdk/internal/util/Preconditions" "SIOOBE_FORMATTER" "Ljava/util/function/BiFunction;", .methodLink ST 1059 JC.PreCheck.yN, .static JC.PreCheck.yN, .code JC.PreCheck.yN JC.PreCheck.yB 3 (some .int), .initialized "jdk/internal/util/Preconditions"]
theorem tabChN_of {a : Array Value} {s : State} (h : ∀ w ∈ wordsChN, w.before a s = true) : ChN.tab.before a s = true := by
  have hp : JC.PreCheck.tab.before a s = true := unparts (wk h (.code JC.PreCheck.yN JC.PreCheck.yB 3 (some .int))) (wks h (.initialized JC.PreCheck.yN.cls :: JC.PreCheck.site))
  have qk := consq hp h
  have hk : JO.Str_checkIndex.tab.before a s = true := unparts (wk qk (.code JO.Str_checkIndex.yN JO.Str_checkIndex.yB 2 none)) (wks qk (.initialized JO.Str_checkIndex.yN.cls :: JO.Str_checkIndex.site))
  have ql := consq hk h
  have hl : LChA.tab.before a s = true := unparts (wk ql (.code LChA.yN LChA.yB 2 (some .char))) (wks ql (.initialized LChA.yN.cls :: LChA.site))
  have hi : IsL.tab.before a s = true := unparts (wk h (.code IsL.yN IsL.yB 1 (some .boolean))) (wks h (.initialized IsL.yN.cls :: IsL.site))
  have q := consq hi (consq hl h)
  exact unparts (wk q (.code ChN.yN ChN.yB 2 (some .char))) (wks q (.initialized ChN.yN.cls :: ChN.site))
theorem movedChN {Z s : State} {a0 args : Array Value} (hZ : Z.Warmed39 s.vm) (hw : ∀ d ∈ wordsChN, d.before a0 Z = true) : ∀ d ∈ wordsChN, d.before args s = true := fun d hd => by
  have t : ∀ d ∈ wordsChN, (d.onTables && d.keepsFace) = true := by decide +kernel
  exact RoadKit.mv hZ (hw d hd) (t d hd)
/-- **charAt(i) OF A LATIN-1 STRING**, i < n: the char -/
theorem chN {p : Program} {l : Launch} {e : Env} {R : Room} {s : State} {args : Array Value} {below : List Frame} {len W : Nat} {Z : State} {a0 : Array Value} {h : Heap} (hZ : Z.Warmed39 s.vm) (hw : ∀ d ∈ wordsChN, d.before a0 Z = true) {kI : Nat} (wi : (Jvm.Cond.instantiable ST kI).before a0 Z = true)
    {x t : Addr} {kb : ClassId} {cs : List Int32} {N2 z : Int32} {vs : List Value} {fm : Value} {i : Nat} {j : Int32} (E : RoadKit.Exa Z h x ST) (V : RoadKit.Fld Z h x ST "value" "[B" (.ref t)) (C : RoadKit.Fld Z h x ST "coder" "B" (.int 0)) (K : RoadKit.Arv Z h t kb .byte N2 vs (.int 0)) (hc : CodA cs 0 N2 vs) (hb : ∀ c ∈ cs, ¬ c < 0 ∧ ¬ (65535 : Int32) < c)
    (S : RoadKit.Sta Z h ST "COMPACT_STRINGS" "Z" (.int z)) (hz : ¬ z = 0) (F : RoadKit.Sta Z h "jdk/internal/util/Preconditions" "SIOOBE_FORMATTER" "Ljava/util/function/BiFunction;" fm) (rf : fm.isRef = true) (l2 : cs.length ≤ 4000) (hi : i < cs.length) (hj : j = Int32.ofNat i) (hfr : 4 ≤ R.frames) (hlo : W + 53 ≤ R.locals) :
    Back l R p e below s args (⟨"java/lang/String", "charAt", "(I)C"⟩ : MethodName) len W (fun P a => a = #[.ref x, .int j] ∧ P.U.heap = h ∧ P.cells + 0 ≤ R.cells ∧ P.slots + 0 ≤ R.slots)
      (fun P _ v B => ∃ L, (v = some (.int (cs.getD i 0)) ∧ L = [] ∧ B.U.heap = h) ∧ B.locs = P.locs ++ L ∧ B.cells = P.cells + 0 ∧ B.slots = P.slots + 0) := by
  subst hj
  intro m meth c P g ig mk a X hg hsize hdg hW hn hp'
  obtain ⟨rfl, rfl, r1, r2⟩ := hp'
  have al : Z.vm.Alike P.U.vm := hZ.alike.trans X.warmed.alike
  obtain ⟨A, hx⟩ := txt_of wi al E V C K hc hb l2
  obtain ⟨v, B, X', ⟨⟨hv, hh⟩, hl, hk, hs⟩, st⟩ := ChN.pays x t A cs.length (fun j => cs.getD j 0) z fm i (tabChN_of (movedChN hZ hw)) hfr hlo m meth c P g ig mk _ X hg hsize hdg hW hn ⟨r1, r2, rfl, hx, hi, sta_is al S, hz, sta_is al F, rf⟩
  exact ⟨v, B, X', ⟨[], ⟨hv, rfl, hh⟩, hl, hk, hs⟩, st⟩
end StrChars.Road
end Jvm.Pilot.@@N@@
namespace Jvm.Pilot.@@N@@
open Jvm Jvm.ClassFile Sem Op Lib Jvm.Free Jvm.Stand Jvm.LawKit Jvm.RoadKit Bundle Jvm.Pilot.@@N@@.Jvm.D
theorem own_ge {Z : State} {n0 : Nat} {h : Heap} {b : Addr} (X : Old Z n0 h) (q : h.size ≤ b) : n0 ≤ b := Nat.le_trans (X.1 ▸ X.2.1) q
theorem own_irr (x : Int32) : ¬ (x < x) := by rw [Int32.lt_iff_toInt_lt]; exact Int.lt_irrefl _
theorem own_fld {s : State} {args : Array Value} {t : Term} {C n d : String} {k : Int32} {w : Addr} (ht : t.eval args s none [] s = some (.ref w)) (h : (Jvm.Cond.eq (Term.field t C n d) (Term.int k)).value args s none s [] = some true) : Fld s s.heap w C n d (.int k) := by
  have q := eqv_i (Term.int_eval (k)) h
  rw [fld_at ht] at q
  exact Fld.start q
abbrev vI (x : Int32) : Slot := .val (.int x)
abbrev vR (x : Addr) : Slot := .val (.ref x)
theorem own_fldN {s : State} {args : Array Value} {t : Term} {C n d : String} {w : Addr} (ht : t.eval args s none [] s = some (.ref w)) (h : (Jvm.Cond.eq (Term.field t C n d) Term.null).value args s none s [] = some true) : Fld s s.heap w C n d .null := by
  have q := null_v h
  rw [fld_at ht] at q
  exact Fld.start q
theorem own_fldR {s : State} {args : Array Value} {t : Term} {C n d : String} {w x : Addr} (ht : t.eval args s none [] s = some (.ref w)) (h : (Term.field t C n d).eval args s none [] s = some (.ref x)) : Fld s s.heap w C n d (.ref x) := by
  rw [fld_at ht] at h
  exact Fld.start h
theorem own_len {Z : State} {args : Array Value} {t : Term} {a : Addr} {cl : Cell} {ty : FieldType} {z : Int32} (et : t.eval args Z none [] Z = some (.ref a)) (A : Arr Z Z.heap a cl ty) (h : (Term.length t).eval args Z none [] Z = some (.int z)) : cl.slots.size < 2 ^ 31 ∧ cl.slots.size.toInt32 = z := by
  have q := A.fin (Vm.Alike.refl _)
  simp only [Term.eval, et, Option.bind_eq_bind, Option.bind_some, q] at h
  split at h
  · rename_i hs
    exact ⟨hs, Value.int.inj (Option.some.inj h)⟩
  · cases h
theorem own_arv0 {Z : State} {h : Heap} {a : Addr} {cl : Cell} {ty : FieldType} {d : Value} (A : Arr Z h a cl ty) (q : cl.slots.size < 2 ^ 31) (e : cl.slots.size.toInt32 = (0 : Int32)) : Arv Z h a cl.cls ty (0 : Int32) [] d := by
  have S : cl.slots.size = (0 : Int32).toNatClampNeg := by rw [← e]; simp only [Int32.toNatClampNeg, len_toInt q]; rfl
  have S0 : cl.slots.size = 0 := S
  exact ⟨cl, A, rfl, S, by decide, fun k hk => absurd hk (by omega), fun k hk => absurd hk (by omega)⟩
theorem own_strs_in : ∀ w ∈ Bundle.stringAtoms, w ∈ tables_1 := by decide +kernel
theorem own_strs {A0 : Array Value} {Z : State} (hw : ∀ d ∈ tables_1, d.before A0 Z = true) : ∀ a ∈ Bundle.stringAtoms, a.before A0 Z = true := fun a h => hw a (own_strs_in a h)
theorem own_EW {A0 : Array Value} {Z : State} (hw : ∀ d ∈ tables_1, d.before A0 Z = true) : EW Z A0 consts_1 := EW.cons (hw _ (List.mem_of_getElem? (i := 1) rfl)) (by decide) (EW.cons (hw _ (List.mem_of_getElem? (i := 104) rfl)) (by decide) (EW.cons (hw _ (List.mem_of_getElem? (i := 105) rfl)) (by decide) (EW.cons (hw _ (List.mem_of_getElem? (i := 124) rfl)) (by decide) EW.nil)))
abbrev own_B (w : Int32) : Prop := ¬ w < 0 ∧ ¬ (255 : Int32) < w
theorem own_and255' (x : Int32) : own_B (x &&& 255) := by
  have e : (x &&& 255).toInt = x.toInt % 2 ^ 8 := Jvm.Kit.i32_mask x 255 (k := 8) (by decide) (by decide)
  have z : (0 : Int32).toInt = 0 := rfl
  have y : (255 : Int32).toInt = 255 := rfl
  refine ⟨?_, ?_⟩ <;> rw [Int32.lt_iff_toInt_lt, e] <;> omega
theorem own_bm (x : Int32) : own_B ((x &&& 255).toUInt32.toUInt16.toUInt32.toInt32) := by
  rw [i2c_mask]
  exact own_and255' x
theorem own_narc {w : Int32} (h : own_B w) : nar .char w = w := by
  have e : (w &&& 255).toInt = w.toInt % 2 ^ 8 := Jvm.Kit.i32_mask w 255 (k := 8) (by decide) (by decide)
  have z : (0 : Int32).toInt = 0 := rfl
  have y : (255 : Int32).toInt = 255 := rfl
  obtain ⟨h1, h2⟩ := h
  rw [Int32.lt_iff_toInt_lt] at h1 h2
  have q : w &&& 255 = w := Int32.toInt_inj.mp (by rw [e]; omega)
  have r := i2c_mask w
  rw [q] at r
  exact r
theorem own_bn {w : Int32} (h : own_B w) : own_B (nar .char w) := by rw [own_narc h]; exact h
theorem own_c0 : ∀ c ∈ ([] : List Int32), own_B c := fun _ q => nomatch q
theorem own_cS {y : Int32} {L : List Int32} (q : own_B y) (r : ∀ c ∈ L, own_B c) : ∀ c ∈ y :: L, own_B c := fun x z => (List.mem_cons.mp z).elim (fun u => u ▸ q) (r x)
theorem own_idx {j : Int32} {n : Nat} (h0 : ¬ j < (0 : Int32)) (h1 : j < Int32.ofNat n) (hn : n ≤ 4000) : j.toNatClampNeg < n ∧ j = Int32.ofNat j.toNatClampNeg := by
  have e : (Int32.ofNat n).toInt = n := Int32.toInt_ofNat_small (by omega)
  rw [Int32.lt_iff_toInt_lt] at h0 h1
  have z : (0 : Int32).toInt = 0 := rfl
  rw [e] at h1
  rw [z] at h0
  have c : ((j.toNatClampNeg : Nat) : Int) = j.toInt := Int.toNat_of_nonneg (by omega)
  refine ⟨by omega, Int32.toInt_inj.mp ?_⟩
  have c' : (Int32.ofNat j.toNatClampNeg).toInt = j.toNatClampNeg := Int32.toInt_ofNat_small (by omega)
  rw [c', c]
/-- a Latin-1 String at x that says the chars cs -/
def own_Txt (Z : State) (h : Heap) (x : Addr) (cs : List Int32) : Prop := ∃ (t : Addr) (kb : ClassId), Exa Z h x "java/lang/String" ∧ Fld Z h x "java/lang/String" "value" "[B" (.ref t) ∧ Fld Z h x "java/lang/String" "coder" "B" (.int 0) ∧ Arv Z h t kb .byte (Int32.ofNat cs.length) (cs.map fun c => Value.int (StrChars.lo8 c)) (.int 0) ∧ (∀ c ∈ cs, own_B c) ∧ cs.length ≤ 4000
section OwnTxt
variable {p : Program} {l : Launch} {e : Env} {R : Room} {s : State} {args : Array Value} {below : List Frame} {len W : Nat} {Z : State} {a0 : Array Value} {h h' : Heap} {x y t : Addr} {cs ds : List Int32} {kb : ClassId} {n0 : Nat} {z : Int32}
theorem own_Txt.ext (T : own_Txt Z h x cs) (E : Ext h h') : own_Txt Z h' x cs := by
  obtain ⟨t, kb, a, b, c, d, r⟩ := T
  exact ⟨t, kb, a.ext E, b.ext E, c.ext E, d.ext E, r⟩
theorem own_Txt.keep0 (T : own_Txt Z h x cs) (K : Keep h h' []) : own_Txt Z h' x cs := by
  obtain ⟨t, kb, a, b, c, d, r⟩ := T
  exact ⟨t, kb, a.keep K, b.keep K nin0, c.keep K nin0, d.keep K nin0, r⟩
theorem own_Txt.exa (T : own_Txt Z h x cs) : Exa Z h x "java/lang/String" := by obtain ⟨t, kb, a, -⟩ := T; exact a
theorem own_Txt.lt (T : own_Txt Z h x cs) : x < h.size := T.exa.lt
theorem own_txtK {N : Int32} {vs : List Value} (E : Exa Z h x "java/lang/String") (V : Fld Z h x "java/lang/String" "value" "[B" (.ref t)) (C : Fld Z h x "java/lang/String" "coder" "B" (.int 0)) (K : Arv Z h t kb .byte N vs (.int 0)) (hN : N = Int32.ofNat cs.length) (hv : vs = cs.map fun c => Value.int (StrChars.lo8 c)) (hb : ∀ c ∈ cs, own_B c) (hl : cs.length ≤ 4000) : own_Txt Z h x cs := by
  subst hN hv; exact ⟨t, kb, E, V, C, K, hb, hl⟩
theorem own_lo8 (c : Int32) : c.toInt8.toInt32.toInt8.toInt32 = StrChars.lo8 c := by
  show c.toInt8.toInt32.toInt8.toInt32 = c.toInt8.toInt32
  rw [Int8.toInt8_toInt32]
theorem own_txt1 {c : Int32} (E : Exa Z h x "java/lang/String") (V : Fld Z h x "java/lang/String" "value" "[B" (.ref t)) (C : Fld Z h x "java/lang/String" "coder" "B" (.int 0)) (K : Arv Z h t kb .byte (1 : Int32) [.int (nar .byte (c.toInt8.toInt32))] (.int 0)) (hb : own_B c) : own_Txt Z h x [c] := by
  have q : nar .byte (c.toInt8.toInt32) = StrChars.lo8 c := own_lo8 c
  rw [q] at K
  exact ⟨t, kb, E, V, C, K, own_cS hb own_c0, by simp⟩
theorem own_codA (hb : ∀ c ∈ cs, own_B c) : StrChars.Road.CodA cs 0 (Int32.ofNat cs.length) (cs.map fun c => Value.int (StrChars.lo8 c)) := Or.inl ⟨rfl, rfl, rfl, fun c q => (hb c q).2⟩
theorem own_up (hb : ∀ c ∈ cs, own_B c) : ∀ c ∈ cs, ¬ c < 0 ∧ ¬ (65535 : Int32) < c := fun c q => ⟨(hb c q).1, fun r => (hb c q).2 (by
  have y : (255 : Int32).toInt = 255 := rfl
  have y' : (65535 : Int32).toInt = 65535 := rfl
  rw [Int32.lt_iff_toInt_lt] at r ⊢
  omega)⟩
theorem own_getB (T : own_Txt Z h x cs) (i : Nat) : own_B (cs.getD i 0) := by
  obtain ⟨t, kb, -, -, -, -, hb, -⟩ := T
  rw [List.getD_eq_getElem?_getD]
  cases q : cs[i]? with
  | none => exact ⟨by decide, by decide⟩
  | some c => exact hb c (List.mem_of_getElem? q)
theorem own_wLen : ∀ w ∈ StrChars.Road.wordsLen, w ∈ tables_1 := by decide +kernel
theorem own_wCh : ∀ w ∈ StrChars.Road.wordsChN, w ∈ tables_1 := by decide +kernel
theorem own_wEq : ∀ w ∈ StrChars.Road.wordsEq, w ∈ tables_1 := by decide +kernel
theorem own_wNew : ∀ w ∈ StrChars.Road.words, w ∈ tables_1 := by decide +kernel
theorem own_lenB {N : Int32} (hZ : Z.Warmed39 s.vm) (hw : ∀ d ∈ tables_1, d.before a0 Z = true) (OLD : Old Z n0 h) (S : Sta Z Z.heap "java/lang/String" "COMPACT_STRINGS" "Z" (.int z)) (hz : ¬ (z = (0 : Int32))) (T : own_Txt Z h x cs) (hN : N = Int32.ofNat cs.length) (hfr : 2 ≤ R.frames) (hlo : W + 25 ≤ R.locals) :
    Back l R p e below s args (⟨"java/lang/String", "length", "()I"⟩ : MethodName) len W (fun P a => a = #[.ref x] ∧ P.U.heap = h ∧ P.cells + 0 ≤ R.cells ∧ P.slots + 0 ≤ R.slots)
      (fun P _ v B => ∃ L, (v = some (.int N) ∧ Fr n0 L ∧ B.U.heap = h) ∧ B.locs = P.locs ++ L ∧ B.cells = P.cells + 0 ∧ B.slots = P.slots + 0) := by
  subst hN
  obtain ⟨t, kb, E, V, C, K, hb, hl⟩ := T
  refine Back.mono (StrChars.Road.lenW hZ (fun d hd => hw d (own_wLen d hd)) (hw _ (List.mem_of_getElem? (i := 3) rfl)) E V C K (own_codA hb) (own_up hb) (S.ext OLD.2) hz hl hfr hlo) (fun P a hp => hp) (fun P a v B hp hq => ?_)
  obtain ⟨L, ⟨q1, rfl, q3⟩, r⟩ := hq
  exact ⟨[], ⟨q1, Fr.nil _, q3⟩, r⟩
theorem own_chB {fm : Value} {j : Int32} (hZ : Z.Warmed39 s.vm) (hw : ∀ d ∈ tables_1, d.before a0 Z = true) (OLD : Old Z n0 h) (S : Sta Z Z.heap "java/lang/String" "COMPACT_STRINGS" "Z" (.int z)) (hz : ¬ (z = (0 : Int32))) (T : own_Txt Z h x cs) (F : Sta Z Z.heap "jdk/internal/util/Preconditions" "SIOOBE_FORMATTER" "Ljava/util/function/BiFunction;" fm) (rf : fm.isRef = true) (h0 : ¬ (j < (0 : Int32))) (h1 : j < (Int32.ofNat cs.length)) (hfr : 4 ≤ R.frames) (hlo : W + 53 ≤ R.locals) :
    Back l R p e below s args (⟨"java/lang/String", "charAt", "(I)C"⟩ : MethodName) len W (fun P a => a = #[.ref x, .int j] ∧ P.U.heap = h ∧ P.cells + 0 ≤ R.cells ∧ P.slots + 0 ≤ R.slots)
      (fun P _ v B => ∃ L, (v = some (.int (cs.getD (j).toNatClampNeg 0)) ∧ Fr n0 L ∧ B.U.heap = h) ∧ B.locs = P.locs ++ L ∧ B.cells = P.cells + 0 ∧ B.slots = P.slots + 0) := by
  obtain ⟨t, kb, E, V, C, K, hb, hl⟩ := T
  obtain ⟨i1, i2⟩ := own_idx h0 h1 hl
  refine Back.mono (StrChars.Road.chN (i := j.toNatClampNeg) (j := j) hZ (fun d hd => hw d (own_wCh d hd)) (hw _ (List.mem_of_getElem? (i := 3) rfl)) E V C K (own_codA hb) (own_up hb) (S.ext OLD.2) hz (F.ext OLD.2) rf hl i1 i2 hfr hlo) (fun P a hp => hp) (fun P a v B hp hq => ?_)
  obtain ⟨L, ⟨q1, rfl, q3⟩, r⟩ := hq
  exact ⟨[], ⟨q1, Fr.nil _, q3⟩, r⟩
theorem own_eqB {r : Int32} (hZ : Z.Warmed39 s.vm) (hw : ∀ d ∈ tables_1, d.before a0 Z = true) (OLD : Old Z n0 h) (S : Sta Z Z.heap "java/lang/String" "COMPACT_STRINGS" "Z" (.int z)) (hz : ¬ (z = (0 : Int32))) (T : own_Txt Z h x cs) (U : own_Txt Z h y ds) (hr : (r = 1 ∧ cs = ds) ∨ (r = 0 ∧ ¬ cs = ds)) (hfr : 2 ≤ R.frames) (hlo : W + 28 ≤ R.locals) :
    Back l R p e below s args (⟨"java/lang/String", "equals", "(Ljava/lang/Object;)Z"⟩ : MethodName) len W (fun P a => a = #[.ref x, .ref y] ∧ P.U.heap = h ∧ P.cells + 0 ≤ R.cells ∧ P.slots + 0 ≤ R.slots)
      (fun P _ v B => ∃ L, (v = some (.int r) ∧ Fr n0 L ∧ B.U.heap = h) ∧ B.locs = P.locs ++ L ∧ B.cells = P.cells + 0 ∧ B.slots = P.slots + 0) := by
  obtain ⟨t, kb, E, V, C, K, hb, hl⟩ := T
  obtain ⟨t', kb', E', V', C', K', hb', hl'⟩ := U
  refine Back.mono (StrChars.Road.eqW hZ (fun d hd => hw d (own_wEq d hd)) (hw _ (List.mem_of_getElem? (i := 3) rfl)) E V C K (own_codA hb) (own_up hb) hl E' V' C' K' (own_codA hb') (own_up hb') hl' (S.ext OLD.2) hz hfr hlo) (fun P a hp => hp) (fun P a v B hp hq => ?_)
  obtain ⟨L, ⟨q1, rfl, q3⟩, rr⟩ := hq
  refine ⟨[], ⟨?_, Fr.nil _, q3⟩, rr⟩
  rcases q1 with ⟨q1, q2⟩ | ⟨q1, q2⟩ <;> rcases hr with ⟨rfl, g⟩ | ⟨rfl, g⟩ <;> first | exact q1 | exact absurd q2 g | exact absurd g q2
theorem own_newB {b : Addr} {kC : ClassId} {N : Int32} {v0 c0 : Value} {n : Nat} (hZ : Z.Warmed39 s.vm) (hw : ∀ d ∈ tables_1, d.before a0 Z = true) (OLD : Old Z n0 h) (S : Sta Z Z.heap "java/lang/String" "COMPACT_STRINGS" "Z" (.int z)) (hz : ¬ (z = (0 : Int32))) (hx0 : n0 ≤ x) (E : Exa Z h x "java/lang/String") (V : Fld Z h x "java/lang/String" "value" "[B" v0) (C : Fld Z h x "java/lang/String" "coder" "B" c0) (K : Arv Z h b kC .char N (cs.map Value.int) (.int 0)) (hn : cs.length = n) (hN : N = Int32.ofNat n) (l0 : 0 < n ∧ n ≤ 4000) (hp : ∀ c ∈ cs, own_B c) (hfr : 4 ≤ R.frames) (hlo : W + 65 ≤ R.locals) :
    Back l R p e below s args (⟨"java/lang/String", "<init>", "([C)V"⟩ : MethodName) len W (fun P a => a = #[.ref x, .ref b] ∧ P.U.heap = h ∧ P.cells + 1 ≤ R.cells ∧ P.slots + n ≤ R.slots)
      (fun P _ v B => ∃ L, (v = none ∧ Fr n0 L ∧ Keep h B.U.heap [x] ∧ own_Txt Z B.U.heap x cs) ∧ B.locs = P.locs ++ L ∧ B.cells = P.cells + 1 ∧ B.slots = P.slots + n) := by
  refine Back.mono (StrChars.Road.backV (n0 := n0) hZ (fun d hd => hw d (own_wNew d hd)) (hw _ (List.mem_of_getElem? (i := 3) rfl)) hx0 (OLD.1 ▸ OLD.2.1) E V C K (S.ext OLD.2) hz hn hN l0.1 l0.2 hp rfl hfr hlo) (fun P a hp => hp) (fun P a v B hp' hq => ?_)
  obtain ⟨L, ⟨q1, q2, q3, q4, q5, t, kb, -, -, -, q6, q7⟩, r⟩ := hq
  subst hn hN
  rw [List.map_map] at q7
  exact ⟨L, ⟨q1, q2, q3, t, kb, q4, q6, q5, q7, hp, l0.2⟩, r⟩
end OwnTxt
theorem own_safeNull {Z : State} {EL : List (String × Nat)} {vm : Vm} {h : Heap} {x : Addr} (hal : Z.vm.Alike vm) (E : Exa Z h x "java/lang/String") (F : Fld Z h x "java/lang/String" "value" "[B" .null) : Safe Z EL vm h x := fun B => by
  obtain ⟨p, -, u, a, -, q, -, S, rfl | rfl⟩ := B
  · have s1 : h[q.sa]? = some q.sC := S.ha
    obtain ⟨cS, ⟨⟨-, -, -, ⟨c1, k1, i1, f1, -⟩, -, -, -, v1, -⟩, -⟩, -⟩ := S
    obtain ⟨cell, cf, k, i, f, g1, g2, -, -, -, -, g7⟩ := F
    cases s1.symm.trans g1
    obtain ⟨k3, e3, -⟩ := State.fieldFound?_setVm (s := Z) hal g2
    have e4 := (show (Wst Z vm h).fieldFound? _ _ _ = _ from e3).symm.trans f1
    simp only [Option.some.injEq, Prod.mk.injEq] at e4
    rw [← e4.2.2.2, g7] at v1
    cases v1
  · obtain ⟨cell, k, e1, e2, e3, -, -⟩ := E
    cases (show h[q.sd]? = some q.SA from S.hd).symm.trans e1
    obtain ⟨cS, -, -, f, -⟩ := S
    have f' : Z.vm.findClass "[B" = some q.SA.cls := by rw [← hal.findClass]; exact f
    obtain ⟨k1, q1, q2⟩ := Vm.findClass_spec f'
    obtain ⟨k2, q3, q4⟩ := Vm.findClass_spec e2
    cases q1.symm.trans q3
    exact absurd (q2.symm.trans q4) (by decide)
def own_db (cs : List Int32) (a b c : Addr) : Value := if cs = ([104, 50] : List Int32) then .ref a else if cs = ([112, 111, 115, 116, 103, 114, 101, 115, 113, 108] : List Int32) then .ref b else if cs = ([109, 97, 114, 105, 97, 100, 98] : List Int32) then .ref c else .null
theorem own_db0 {cs : List Int32} {a b c : Addr} (h : cs = ([104, 50] : List Int32)) : own_db cs a b c = .ref a := by unfold own_db; rw [if_pos h]
theorem own_db1 {cs : List Int32} {a b c : Addr} (h : ¬ (cs = ([104, 50] : List Int32))) (h1 : cs = ([112, 111, 115, 116, 103, 114, 101, 115, 113, 108] : List Int32)) : own_db cs a b c = .ref b := by unfold own_db; rw [if_neg h, if_pos h1]
theorem own_db2 {cs : List Int32} {a b c : Addr} (h : ¬ (cs = ([104, 50] : List Int32))) (h1 : ¬ (cs = ([112, 111, 115, 116, 103, 114, 101, 115, 113, 108] : List Int32))) (h2 : cs = ([109, 97, 114, 105, 97, 100, 98] : List Int32)) : own_db cs a b c = .ref c := by unfold own_db; rw [if_neg h, if_neg h1, if_pos h2]
theorem own_db3 {cs : List Int32} {a b c : Addr} (h : ¬ (cs = ([104, 50] : List Int32))) (h1 : ¬ (cs = ([112, 111, 115, 116, 103, 114, 101, 115, 113, 108] : List Int32))) (h2 : ¬ (cs = ([109, 97, 114, 105, 97, 100, 98] : List Int32))) : own_db cs a b c = .null := by unfold own_db; rw [if_neg h, if_neg h1, if_neg h2]
theorem own_dbR (cs : List Int32) (a b c : Addr) : (own_db cs a b c).isRef = true := by
  unfold own_db
  split
  · rfl
  · split
    · rfl
    · split <;> rfl
theorem own_dbC (cs : List Int32) (a b c : Addr) : (own_db cs a b c).category = 1 := by
  unfold own_db
  split
  · rfl
  · split
    · rfl
    · split <;> rfl
theorem own_mono {l : Launch} {y : MethodName} {S : Spec} {P : Array Value → State → Prop} {K : Program → Env → List Frame → State → Array Value → Prop} {Q Q' : Array Value → State → Outcome → State → Prop} (h : MetFree l y S P K Q) (hq : ∀ a s o t, Q a s o t → Q' a s o t) : MetFree l y S P K Q' := fun p e a b c s m args below hf hA hP hK => by
  obtain ⟨n, o, h1, h2, h3, h4⟩ := h p e a b c s m args below hf hA hP hK
  exact ⟨n, o, h1, h2, h3, hq _ _ _ _ h4⟩
theorem own_eqR {Z : State} {args : Array Value} {X F : Term} {w : Addr} (hF : F.eval args Z none [] Z = some (.ref w)) (h : (Jvm.Cond.eq X F).value args Z none Z [] = some true) : X.eval args Z none [] Z = some (.ref w) := by
  cases q : X.eval args Z none [] Z with
  | none => simp [Cond.value, q, hF] at h
  | some v => cases v <;> simp [Cond.value, q, hF] at h ⊢; exact h
theorem own_isref {Z : State} {args : Array Value} {t : Term} (h : (Jvm.Cond.isRef t).value args Z none Z [] = some true) : ∃ v, t.eval args Z none [] Z = some v ∧ v.isRef = true := by
  cases q : t.eval args Z none [] Z with
  | none => simp [Cond.value, q] at h
  | some v => exact ⟨v, rfl, by cases v <;> simp [Cond.value, q, Value.isRef] at h ⊢⟩
theorem own_msk (x : Int32) : 0 ≤ (x &&& (2147483647 : Int32)).toInt := by
  have e : (x &&& (2147483647 : Int32)).toInt = x.toInt % 2 ^ 31 := Jvm.Kit.i32_mask x 2147483647 (k := 31) (by decide) (by decide)
  rw [e]; exact Int.emod_nonneg _ (by decide)
theorem own_mod4 (x : Int32) : ((x &&& (2147483647 : Int32)) % (4 : Int32)) = (0 : Int32) ∨ ((x &&& (2147483647 : Int32)) % (4 : Int32)) = (1 : Int32) ∨ ((x &&& (2147483647 : Int32)) % (4 : Int32)) = (2 : Int32) ∨ ((x &&& (2147483647 : Int32)) % (4 : Int32)) = (3 : Int32) := by
  have e := (c_irem (x &&& (2147483647 : Int32)) 4 4 rfl).1 (own_msk x)
  have p : ((x &&& (2147483647 : Int32)) % (4 : Int32)).toInt = 0 ∨ ((x &&& (2147483647 : Int32)) % (4 : Int32)).toInt = 1 ∨ ((x &&& (2147483647 : Int32)) % (4 : Int32)).toInt = 2 ∨ ((x &&& (2147483647 : Int32)) % (4 : Int32)).toInt = 3 := by omega
  rcases p with q | q | q | q
  · exact Or.inl (Int32.toInt_inj.mp q)
  · exact Or.inr (Or.inl (Int32.toInt_inj.mp q))
  · exact Or.inr (Or.inr (Or.inl (Int32.toInt_inj.mp q)))
  · exact Or.inr (Or.inr (Or.inr (Int32.toInt_inj.mp q)))
theorem own_mod3 (x : Int32) : ((x &&& (2147483647 : Int32)) % (3 : Int32)) = (0 : Int32) ∨ ((x &&& (2147483647 : Int32)) % (3 : Int32)) = (1 : Int32) ∨ ((x &&& (2147483647 : Int32)) % (3 : Int32)) = (2 : Int32) := by
  have e := (c_irem (x &&& (2147483647 : Int32)) 3 3 rfl).1 (own_msk x)
  have p : ((x &&& (2147483647 : Int32)) % (3 : Int32)).toInt = 0 ∨ ((x &&& (2147483647 : Int32)) % (3 : Int32)).toInt = 1 ∨ ((x &&& (2147483647 : Int32)) % (3 : Int32)).toInt = 2 := by omega
  rcases p with q | q | q
  · exact Or.inl (Int32.toInt_inj.mp q)
  · exact Or.inr (Or.inl (Int32.toInt_inj.mp q))
  · exact Or.inr (Or.inr (Int32.toInt_inj.mp q))
theorem d4_0 : decode method_4_code 0 = .ok (.iload_n 1, 1) := by decide +kernel
theorem d4_1 : decode method_4_code 1 = .ok (.iload_n 2, 1) := by decide +kernel
theorem d4_2 : decode method_4_code 2 = .ok (.if_icmp .ne 5, 3) := by decide +kernel
theorem d4_5 : decode method_4_code 5 = .ok (.iload_n 3, 1) := by decide +kernel
theorem d4_6 : decode method_4_code 6 = .ok (.ireturn, 1) := by decide +kernel
theorem pn_com_example_seshat_seshat_jpql_DatabaseNamedPinLaw : plainName "com/example/seshat/seshat/jpql/DatabaseNamedPinLaw" = true := by first | (simp [plainName, overriddenIn]; done) | decide +kernel
theorem ef_4 (m : MethodId) (x0 : Addr) (x1 : Int32) (x2 : Int32) (x3 : Int32) : entryFrame m #[(.ref x0), (.int x1), (.int x2), (.int x3)] 4 = mkF m 0 #[vR x0, vI x1, vI x2, vI x3] [] := by first | (simp [entryFrame, mkF, argsToLocals, Value.category]; done) | rfl
def Q4a (Z : State) (cs_a0 : List Int32) (w_COMPACT_STRINGS : Int32) (w_SIOOBE_FORMATTER : Value) (a0 : Addr) (p1 : Int32) (p2 : Int32) (p3 : Int32) (h0 : Heap) (n0 : Nat) (v : Option Value) (h : Heap) (L : List Loc) : Prop := v = some (.int (nar .char p3)) ∧ Fr n0 L ∧ h = h0
set_option maxRecDepth 65536 in
set_option maxHeartbeats 40000000 in
theorem rm4a (l : Launch) (Z : State) (A0 : Array Value) (hw : ∀ d ∈ tables_1, d.before A0 Z = true) (ws : List Jvm.Cond) (cs_a0 : List Int32) (w_COMPACT_STRINGS : Int32) (w_SIOOBE_FORMATTER : Value) (a0 : Addr) (p1 : Int32) (p2 : Int32) (p3 : Int32) (h0 : Heap) (n0 : Nat) (OLD : Old Z n0 h0) (f_1 : own_Txt Z h0 a0 cs_a0) (c_2 : own_B p3) (c_3 : ¬ (p1 < (0 : Int32))) (f_4 : Sta Z Z.heap "java/lang/String" "COMPACT_STRINGS" "Z" (.int w_COMPACT_STRINGS)) (c_5 : ¬ (w_COMPACT_STRINGS = (0 : Int32))) (f_6 : Sta Z Z.heap "jdk/internal/util/Preconditions" "SIOOBE_FORMATTER" "Ljava/util/function/BiFunction;" w_SIOOBE_FORMATTER) (c_7 : w_SIOOBE_FORMATTER.isRef = true) (c_8 : p1 = p2) :
    MetFree l (⟨"com/example/seshat/seshat/jpql/DatabaseNamedPinLaw", "at", "(Ljava/lang/String;IIC)C"⟩ : MethodName) (head1 (Jvm.Cond.code (⟨"com/example/seshat/seshat/jpql/DatabaseNamedPinLaw", "at", "(Ljava/lang/String;IIC)C"⟩ : MethodName) method_4_code 4 (some .char) :: ws) ({ frames := 4, cells := 0, slots := 0, locals := 60 } : Room)) (fun a U => a = #[(.ref a0), (.int p1), (.int p2), (.int p3)] ∧ Z.Warmed39 U.vm ∧ U.heap = h0) (fun _ _ _ _ _ => True) (fun _ U o U' => ∃ v L, o = .returned v ∧ Q4a Z cs_a0 w_COMPACT_STRINGS w_SIOOBE_FORMATTER a0 p1 p2 p3 h0 n0 v U'.heap L ∧ FrameEnd U o U' L ({ frames := 4, cells := 0, slots := 0, locals := 60 } : Room).cells ({ frames := 4, cells := 0, slots := 0, locals := 60 } : Room).slots) := by
  refine MetFree.of_bodySF (plainFor_of_name pn_com_example_seshat_seshat_jpql_DatabaseNamedPinLaw) hisR ?_
  intro p e s m args below meth c s₁ Bd hml0 hP hK
  obtain ⟨rfl, hZ, hh⟩ := hP
  have hx := Bd.exec
  have hby := Bd.bytes
  have hml : c.maxLocals = 4 := hml0
  have hown : s.vm.findClass "com/example/seshat/seshat/jpql/DatabaseNamedPinLaw" = some m.cls := findClass_of_methodNamed Bd.named
  have hnm := (name_of_methodNamed Bd.named Bd.method).1
  have X0 : Stand p l e ({ frames := 4, cells := 0, slots := 0, locals := 60 } : Room) s m #[(.ref a0), (.int p1), (.int p2), (.int p3)] below meth c s₁ [] 0 0 := Stand.of_body Bd
  have e0 : s₁.heap = h0 := by rw [← hh, Bd.state]; rfl
  have N0 := Fr.nil n0
  have pre0 : ∀ t, Steps p.tables e below (s₁.setTop (mkF m 0 #[vR a0, vI p1, vI p2, vI p3] [])) t → Steps p.tables e below (s₁.setTop (entryFrame m #[(.ref a0), (.int p1), (.int p2), (.int p3)] 4)) t := fun t k => castTop (ef_4 m a0 p1 p2 p3) k
  obtain ⟨fs, hr, hrun, hended, hW, hsame⟩ := X0.leave (v := some (.int (nar .char p3))) (fun h => by rw [Bd.returns] at h; cases h)
  refine ⟨_, _, pre0 _ ?_, hrun, hended, _, _, rfl, ?_, ⟨_, rfl⟩, hW, hsame.mono (by decide) (by decide)⟩
  · show Steps p.tables e below (s₁.setTop (mkF m 0 #[vR a0, vI p1, vI p2, vI p3] [])) _
    refine XS.iloadN X0.here hx rfl (hb hby d4_0) rfl ?_
    refine XS.iloadN X0.here hx rfl (hb hby d4_1) rfl ?_
    show Steps p.tables e below (s₁.setTop (mkF m 2 #[vR a0, vI p1, vI p2, vI p3] [(.int p2), (.int p1)])) _
    refine XS.icmpNo X0.here hx rfl (hb hby d4_2) rfl (teq c_8).2 ?_
    refine XS.iloadN X0.here hx rfl (hb hby d4_5) rfl ?_
    show Steps p.tables e below (s₁.setTop (mkF m 6 #[vR a0, vI p1, vI p2, vI p3] [(.int p3)])) _
    exact retN X0 hx (t := .char) Bd.returns (by simp) (hb hby d4_6) hr
  · show Q4a Z cs_a0 w_COMPACT_STRINGS w_SIOOBE_FORMATTER a0 p1 p2 p3 h0 n0 _ s₁.heap _
    rw [e0]
    exact ⟨rfl, N0, rfl⟩
theorem pd_0 : parseMethodDescriptor "()I" = some ⟨[], some .int⟩ := by decide +kernel
theorem pd_1 : parseMethodDescriptor "(I)C" = some ⟨[.int], some .char⟩ := by decide +kernel
theorem d4_7 : decode method_4_code 7 = .ok (.iload_n 1, 1) := by decide +kernel
theorem d4_8 : decode method_4_code 8 = .ok (.aload_n 0, 1) := by decide +kernel
theorem d4_9 : decode method_4_code 9 = .ok (.invokevirtual 23, 3) := by decide +kernel
theorem d4_12 : decode method_4_code 12 = .ok (.if_icmp .ge 9, 3) := by decide +kernel
theorem d4_15 : decode method_4_code 15 = .ok (.aload_n 0, 1) := by decide +kernel
theorem d4_16 : decode method_4_code 16 = .ok (.iload_n 1, 1) := by decide +kernel
theorem d4_17 : decode method_4_code 17 = .ok (.invokevirtual 56, 3) := by decide +kernel
theorem d4_20 : decode method_4_code 20 = .ok (.ireturn, 1) := by decide +kernel
def Q4b (Z : State) (cs_a0 : List Int32) (w_COMPACT_STRINGS : Int32) (w_SIOOBE_FORMATTER : Value) (a0 : Addr) (p1 : Int32) (p2 : Int32) (p3 : Int32) (h0 : Heap) (n0 : Nat) (v : Option Value) (h : Heap) (L : List Loc) : Prop := v = some (.int (nar .char (cs_a0.getD (p1).toNatClampNeg 0))) ∧ Fr n0 L ∧ h = h0
set_option maxRecDepth 65536 in
set_option maxHeartbeats 40000000 in
theorem rm4b (l : Launch) (Z : State) (A0 : Array Value) (hw : ∀ d ∈ tables_1, d.before A0 Z = true) (ws : List Jvm.Cond) (cs_a0 : List Int32) (w_COMPACT_STRINGS : Int32) (w_SIOOBE_FORMATTER : Value) (a0 : Addr) (p1 : Int32) (p2 : Int32) (p3 : Int32) (h0 : Heap) (n0 : Nat) (OLD : Old Z n0 h0) (f_1 : own_Txt Z h0 a0 cs_a0) (c_2 : own_B p3) (c_3 : ¬ (p1 < (0 : Int32))) (f_4 : Sta Z Z.heap "java/lang/String" "COMPACT_STRINGS" "Z" (.int w_COMPACT_STRINGS)) (c_5 : ¬ (w_COMPACT_STRINGS = (0 : Int32))) (f_6 : Sta Z Z.heap "jdk/internal/util/Preconditions" "SIOOBE_FORMATTER" "Ljava/util/function/BiFunction;" w_SIOOBE_FORMATTER) (c_7 : w_SIOOBE_FORMATTER.isRef = true) (c_8 : ¬ (p1 = p2)) (c_9 : p1 < (Int32.ofNat cs_a0.length)) :
    MetFree l (⟨"com/example/seshat/seshat/jpql/DatabaseNamedPinLaw", "at", "(Ljava/lang/String;IIC)C"⟩ : MethodName) (head1 (Jvm.Cond.code (⟨"com/example/seshat/seshat/jpql/DatabaseNamedPinLaw", "at", "(Ljava/lang/String;IIC)C"⟩ : MethodName) method_4_code 4 (some .char) :: ws) ({ frames := 4, cells := 0, slots := 0, locals := 60 } : Room)) (fun a U => a = #[(.ref a0), (.int p1), (.int p2), (.int p3)] ∧ Z.Warmed39 U.vm ∧ U.heap = h0) (fun _ _ _ _ _ => True) (fun _ U o U' => ∃ v L, o = .returned v ∧ Q4b Z cs_a0 w_COMPACT_STRINGS w_SIOOBE_FORMATTER a0 p1 p2 p3 h0 n0 v U'.heap L ∧ FrameEnd U o U' L ({ frames := 4, cells := 0, slots := 0, locals := 60 } : Room).cells ({ frames := 4, cells := 0, slots := 0, locals := 60 } : Room).slots) := by
  refine MetFree.of_bodySF (plainFor_of_name pn_com_example_seshat_seshat_jpql_DatabaseNamedPinLaw) hisR ?_
  intro p e s m args below meth c s₁ Bd hml0 hP hK
  obtain ⟨rfl, hZ, hh⟩ := hP
  have hx := Bd.exec
  have hby := Bd.bytes
  have hml : c.maxLocals = 4 := hml0
  have hown : s.vm.findClass "com/example/seshat/seshat/jpql/DatabaseNamedPinLaw" = some m.cls := findClass_of_methodNamed Bd.named
  have hnm := (name_of_methodNamed Bd.named Bd.method).1
  have X0 : Stand p l e ({ frames := 4, cells := 0, slots := 0, locals := 60 } : Room) s m #[(.ref a0), (.int p1), (.int p2), (.int p3)] below meth c s₁ [] 0 0 := Stand.of_body Bd
  have e0 : s₁.heap = h0 := by rw [← hh, Bd.state]; rfl
  have N0 := Fr.nil n0
  have pre0 : ∀ t, Steps p.tables e below (s₁.setTop (mkF m 0 #[vR a0, vI p1, vI p2, vI p3] [])) t → Steps p.tables e below (s₁.setTop (entryFrame m #[(.ref a0), (.int p1), (.int p2), (.int p3)] 4)) t := fun t k => castTop (ef_4 m a0 p1 p2 p3) k
  obtain ⟨cq10, kq10, q10a, q10b, q10c⟩ := isOf hZ e0 (own_Txt.exa f_1)
  obtain ⟨_, _, ⟨T10, L10, k10, n10⟩, -, X10, ⟨Lc10, hQ10, l10, y10, z10⟩, st10⟩ := X0.virtualBack hx (y := (⟨"java/lang/String", "length", "()I"⟩ : MethodName)) (z := (⟨"java/lang/String", "length", "()I"⟩ : MethodName)) hown (mvT hZ (hw _ (List.mem_of_getElem? (i := 9) rfl))) (mvT hZ (hw _ (List.mem_of_getElem? (i := 10) rfl))) (notFace_of_selects (args := #[]) (mvT hZ (hw _ (List.mem_of_getElem? (i := 12) rfl)))) (mvT hZ (hw _ (List.mem_of_getElem? (i := 12) rfl))) (mvT hZ (hw _ (List.mem_of_getElem? (i := 11) rfl))) (by decide) (own_lenB (W := 1) (N := (Int32.ofNat cs_a0.length)) hZ hw OLD f_4 c_5 f_1 rfl (by decide) (by decide)) q10a q10c (g := (mkF m 9 #[vR a0, vI p1, vI p2, vI p3] [(.ref a0), (.int p1)])) rfl (by rw [hml]; rfl) (Steps.refl _) (argsL := []) (rest := [(.int p1)]) (lenOf pd_0 rfl) rfl (by show 2 * 0 + _ ≤ _; exact Nat.le_of_eq rfl) (hb hby d4_9) (fun _ _ => ⟨rfl, e0, (by decide : 0 + 0 ≤ _), (by decide : 0 + 0 ≤ _)⟩)
  dsimp only [Pt.U, Pt.locs, Pt.cells, Pt.slots] at X10 l10 y10 z10 st10 hQ10
  subst l10 y10 z10
  obtain ⟨rfl, N10q, e10⟩ := hQ10
  have N10 := Fr.app N0 N10q
  obtain ⟨cq11, kq11, q11a, q11b, q11c⟩ := isOf hZ e10 (own_Txt.exa f_1)
  obtain ⟨_, _, ⟨T11, L11, k11, n11⟩, -, X11, ⟨Lc11, hQ11, l11, y11, z11⟩, st11⟩ := X10.virtualBack hx (y := (⟨"java/lang/String", "charAt", "(I)C"⟩ : MethodName)) (z := (⟨"java/lang/String", "charAt", "(I)C"⟩ : MethodName)) hown (mvT hZ (hw _ (List.mem_of_getElem? (i := 29) rfl))) (mvT hZ (hw _ (List.mem_of_getElem? (i := 30) rfl))) (notFace_of_selects (args := #[]) (mvT hZ (hw _ (List.mem_of_getElem? (i := 32) rfl)))) (mvT hZ (hw _ (List.mem_of_getElem? (i := 32) rfl))) (mvT hZ (hw _ (List.mem_of_getElem? (i := 31) rfl))) (by decide) (own_chB (W := 0) hZ hw OLD f_4 c_5 f_1 f_6 c_7 c_3 c_9 (by decide) (by decide)) q11a q11c (g := (mkF m 17 #[vR a0, vI p1, vI p2, vI p3] [(.int p1), (.ref a0)])) rfl (by rw [hml]; rfl) (Steps.refl _) (argsL := [(.int p1)]) (rest := []) (lenOf pd_1 rfl) rfl (by show 2 * 0 + _ ≤ _; exact Nat.le_of_eq rfl) (hb hby d4_17) (fun _ _ => ⟨rfl, e10, (by decide : 0 + 0 ≤ _), (by decide : 0 + 0 ≤ _)⟩)
  dsimp only [Pt.U, Pt.locs, Pt.cells, Pt.slots] at X11 l11 y11 z11 st11 hQ11
  subst l11 y11 z11
  obtain ⟨rfl, N11q, e11⟩ := hQ11
  have N11 := Fr.app N10 N11q
  obtain ⟨fs, hr, hrun, hended, hW, hsame⟩ := X11.leave (v := some (.int (nar .char (cs_a0.getD (p1).toNatClampNeg 0)))) (fun h => by rw [Bd.returns] at h; cases h)
  refine ⟨_, _, pre0 _ ?_, hrun, hended, _, _, rfl, ?_, ⟨_, rfl⟩, hW, hsame.mono (by decide) (by decide)⟩
  · show Steps p.tables e below (s₁.setTop (mkF m 0 #[vR a0, vI p1, vI p2, vI p3] [])) _
    refine XS.iloadN X0.here hx rfl (hb hby d4_0) rfl ?_
    refine XS.iloadN X0.here hx rfl (hb hby d4_1) rfl ?_
    show Steps p.tables e below (s₁.setTop (mkF m 2 #[vR a0, vI p1, vI p2, vI p3] [(.int p2), (.int p1)])) _
    refine XS.icmpYes X0.here hx rfl (pc0 := 2) (pc' := 7) rfl (hb hby d4_2) rfl (feq c_8).2 (by decide) (by decide) ?_
    refine XS.iloadN X0.here hx rfl (hb hby d4_7) rfl ?_
    show Steps p.tables e below (s₁.setTop (mkF m 8 #[vR a0, vI p1, vI p2, vI p3] [(.int p1)])) _
    refine XS.aloadN X0.here hx rfl (hb hby d4_8) rfl rfl ?_
    refine st10.trans ?_
    show Steps p.tables e below (T10.setTop (mkF m 12 #[vR a0, vI p1, vI p2, vI p3] [(.int (Int32.ofNat cs_a0.length)), (.int p1)])) _
    refine XS.icmpNo X10.here hx rfl (hb hby d4_12) rfl (tlt c_9).2.1 ?_
    refine XS.aloadN X10.here hx rfl (hb hby d4_15) rfl rfl ?_
    show Steps p.tables e below (T10.setTop (mkF m 16 #[vR a0, vI p1, vI p2, vI p3] [(.ref a0)])) _
    refine XS.iloadN X10.here hx rfl (hb hby d4_16) rfl ?_
    refine st11.trans ?_
    show Steps p.tables e below (T11.setTop (mkF m 20 #[vR a0, vI p1, vI p2, vI p3] [(.int (cs_a0.getD (p1).toNatClampNeg 0))])) _
    exact retN X11 hx (t := .char) Bd.returns (by simp) (hb hby d4_20) hr
  · show Q4b Z cs_a0 w_COMPACT_STRINGS w_SIOOBE_FORMATTER a0 p1 p2 p3 h0 n0 _ T11.heap _
    rw [e11]
    exact ⟨rfl, N11, rfl⟩
theorem d4_21 : decode method_4_code 21 = .ok (.iload_n 3, 1) := by decide +kernel
theorem d4_22 : decode method_4_code 22 = .ok (.ireturn, 1) := by decide +kernel
def Q4c (Z : State) (cs_a0 : List Int32) (w_COMPACT_STRINGS : Int32) (w_SIOOBE_FORMATTER : Value) (a0 : Addr) (p1 : Int32) (p2 : Int32) (p3 : Int32) (h0 : Heap) (n0 : Nat) (v : Option Value) (h : Heap) (L : List Loc) : Prop := v = some (.int (nar .char p3)) ∧ Fr n0 L ∧ h = h0
set_option maxRecDepth 65536 in
set_option maxHeartbeats 40000000 in
theorem rm4c (l : Launch) (Z : State) (A0 : Array Value) (hw : ∀ d ∈ tables_1, d.before A0 Z = true) (ws : List Jvm.Cond) (cs_a0 : List Int32) (w_COMPACT_STRINGS : Int32) (w_SIOOBE_FORMATTER : Value) (a0 : Addr) (p1 : Int32) (p2 : Int32) (p3 : Int32) (h0 : Heap) (n0 : Nat) (OLD : Old Z n0 h0) (f_1 : own_Txt Z h0 a0 cs_a0) (c_2 : own_B p3) (c_3 : ¬ (p1 < (0 : Int32))) (f_4 : Sta Z Z.heap "java/lang/String" "COMPACT_STRINGS" "Z" (.int w_COMPACT_STRINGS)) (c_5 : ¬ (w_COMPACT_STRINGS = (0 : Int32))) (f_6 : Sta Z Z.heap "jdk/internal/util/Preconditions" "SIOOBE_FORMATTER" "Ljava/util/function/BiFunction;" w_SIOOBE_FORMATTER) (c_7 : w_SIOOBE_FORMATTER.isRef = true) (c_8 : ¬ (p1 = p2)) (c_9 : ¬ (p1 < (Int32.ofNat cs_a0.length))) :
    MetFree l (⟨"com/example/seshat/seshat/jpql/DatabaseNamedPinLaw", "at", "(Ljava/lang/String;IIC)C"⟩ : MethodName) (head1 (Jvm.Cond.code (⟨"com/example/seshat/seshat/jpql/DatabaseNamedPinLaw", "at", "(Ljava/lang/String;IIC)C"⟩ : MethodName) method_4_code 4 (some .char) :: ws) ({ frames := 4, cells := 0, slots := 0, locals := 60 } : Room)) (fun a U => a = #[(.ref a0), (.int p1), (.int p2), (.int p3)] ∧ Z.Warmed39 U.vm ∧ U.heap = h0) (fun _ _ _ _ _ => True) (fun _ U o U' => ∃ v L, o = .returned v ∧ Q4c Z cs_a0 w_COMPACT_STRINGS w_SIOOBE_FORMATTER a0 p1 p2 p3 h0 n0 v U'.heap L ∧ FrameEnd U o U' L ({ frames := 4, cells := 0, slots := 0, locals := 60 } : Room).cells ({ frames := 4, cells := 0, slots := 0, locals := 60 } : Room).slots) := by
  refine MetFree.of_bodySF (plainFor_of_name pn_com_example_seshat_seshat_jpql_DatabaseNamedPinLaw) hisR ?_
  intro p e s m args below meth c s₁ Bd hml0 hP hK
  obtain ⟨rfl, hZ, hh⟩ := hP
  have hx := Bd.exec
  have hby := Bd.bytes
  have hml : c.maxLocals = 4 := hml0
  have hown : s.vm.findClass "com/example/seshat/seshat/jpql/DatabaseNamedPinLaw" = some m.cls := findClass_of_methodNamed Bd.named
  have hnm := (name_of_methodNamed Bd.named Bd.method).1
  have X0 : Stand p l e ({ frames := 4, cells := 0, slots := 0, locals := 60 } : Room) s m #[(.ref a0), (.int p1), (.int p2), (.int p3)] below meth c s₁ [] 0 0 := Stand.of_body Bd
  have e0 : s₁.heap = h0 := by rw [← hh, Bd.state]; rfl
  have N0 := Fr.nil n0
  have pre0 : ∀ t, Steps p.tables e below (s₁.setTop (mkF m 0 #[vR a0, vI p1, vI p2, vI p3] [])) t → Steps p.tables e below (s₁.setTop (entryFrame m #[(.ref a0), (.int p1), (.int p2), (.int p3)] 4)) t := fun t k => castTop (ef_4 m a0 p1 p2 p3) k
  obtain ⟨cq10, kq10, q10a, q10b, q10c⟩ := isOf hZ e0 (own_Txt.exa f_1)
  obtain ⟨_, _, ⟨T10, L10, k10, n10⟩, -, X10, ⟨Lc10, hQ10, l10, y10, z10⟩, st10⟩ := X0.virtualBack hx (y := (⟨"java/lang/String", "length", "()I"⟩ : MethodName)) (z := (⟨"java/lang/String", "length", "()I"⟩ : MethodName)) hown (mvT hZ (hw _ (List.mem_of_getElem? (i := 9) rfl))) (mvT hZ (hw _ (List.mem_of_getElem? (i := 10) rfl))) (notFace_of_selects (args := #[]) (mvT hZ (hw _ (List.mem_of_getElem? (i := 12) rfl)))) (mvT hZ (hw _ (List.mem_of_getElem? (i := 12) rfl))) (mvT hZ (hw _ (List.mem_of_getElem? (i := 11) rfl))) (by decide) (own_lenB (W := 1) (N := (Int32.ofNat cs_a0.length)) hZ hw OLD f_4 c_5 f_1 rfl (by decide) (by decide)) q10a q10c (g := (mkF m 9 #[vR a0, vI p1, vI p2, vI p3] [(.ref a0), (.int p1)])) rfl (by rw [hml]; rfl) (Steps.refl _) (argsL := []) (rest := [(.int p1)]) (lenOf pd_0 rfl) rfl (by show 2 * 0 + _ ≤ _; exact Nat.le_of_eq rfl) (hb hby d4_9) (fun _ _ => ⟨rfl, e0, (by decide : 0 + 0 ≤ _), (by decide : 0 + 0 ≤ _)⟩)
  dsimp only [Pt.U, Pt.locs, Pt.cells, Pt.slots] at X10 l10 y10 z10 st10 hQ10
  subst l10 y10 z10
  obtain ⟨rfl, N10q, e10⟩ := hQ10
  have N10 := Fr.app N0 N10q
  obtain ⟨fs, hr, hrun, hended, hW, hsame⟩ := X10.leave (v := some (.int (nar .char p3))) (fun h => by rw [Bd.returns] at h; cases h)
  refine ⟨_, _, pre0 _ ?_, hrun, hended, _, _, rfl, ?_, ⟨_, rfl⟩, hW, hsame.mono (by decide) (by decide)⟩
  · show Steps p.tables e below (s₁.setTop (mkF m 0 #[vR a0, vI p1, vI p2, vI p3] [])) _
    refine XS.iloadN X0.here hx rfl (hb hby d4_0) rfl ?_
    refine XS.iloadN X0.here hx rfl (hb hby d4_1) rfl ?_
    show Steps p.tables e below (s₁.setTop (mkF m 2 #[vR a0, vI p1, vI p2, vI p3] [(.int p2), (.int p1)])) _
    refine XS.icmpYes X0.here hx rfl (pc0 := 2) (pc' := 7) rfl (hb hby d4_2) rfl (feq c_8).2 (by decide) (by decide) ?_
    refine XS.iloadN X0.here hx rfl (hb hby d4_7) rfl ?_
    show Steps p.tables e below (s₁.setTop (mkF m 8 #[vR a0, vI p1, vI p2, vI p3] [(.int p1)])) _
    refine XS.aloadN X0.here hx rfl (hb hby d4_8) rfl rfl ?_
    refine st10.trans ?_
    show Steps p.tables e below (T10.setTop (mkF m 12 #[vR a0, vI p1, vI p2, vI p3] [(.int (Int32.ofNat cs_a0.length)), (.int p1)])) _
    refine XS.icmpYes X10.here hx rfl (pc0 := 12) (pc' := 21) rfl (hb hby d4_12) rfl (flt c_9).2.1 (by decide) (by decide) ?_
    refine XS.iloadN X10.here hx rfl (hb hby d4_21) rfl ?_
    show Steps p.tables e below (T10.setTop (mkF m 22 #[vR a0, vI p1, vI p2, vI p3] [(.int p3)])) _
    exact retN X10 hx (t := .char) Bd.returns (by simp) (hb hby d4_22) hr
  · show Q4c Z cs_a0 w_COMPACT_STRINGS w_SIOOBE_FORMATTER a0 p1 p2 p3 h0 n0 _ T10.heap _
    rw [e10]
    exact ⟨rfl, N10, rfl⟩
def Q4 (Z : State) (cs_a0 : List Int32) (w_COMPACT_STRINGS : Int32) (w_SIOOBE_FORMATTER : Value) (a0 : Addr) (p1 : Int32) (p2 : Int32) (p3 : Int32) (h0 : Heap) (n0 : Nat) (v : Option Value) (h : Heap) (L : List Loc) : Prop := ∃ w : Int32, v = some (.int w) ∧ Fr n0 L ∧ h = h0 ∧ own_B w
theorem rm4 (l : Launch) (Z : State) (A0 : Array Value) (hw : ∀ d ∈ tables_1, d.before A0 Z = true) (ws : List Jvm.Cond) (cs_a0 : List Int32) (w_COMPACT_STRINGS : Int32) (w_SIOOBE_FORMATTER : Value) (a0 : Addr) (p1 : Int32) (p2 : Int32) (p3 : Int32) (h0 : Heap) (n0 : Nat) (OLD : Old Z n0 h0) (x0 : own_Txt Z h0 a0 cs_a0) (x1 : own_B p3) (x2 : ¬ (p1 < (0 : Int32))) (x3 : Sta Z Z.heap "java/lang/String" "COMPACT_STRINGS" "Z" (.int w_COMPACT_STRINGS)) (x4 : ¬ (w_COMPACT_STRINGS = (0 : Int32))) (x5 : Sta Z Z.heap "jdk/internal/util/Preconditions" "SIOOBE_FORMATTER" "Ljava/util/function/BiFunction;" w_SIOOBE_FORMATTER) (x6 : w_SIOOBE_FORMATTER.isRef = true) :
    MetFree l (⟨"com/example/seshat/seshat/jpql/DatabaseNamedPinLaw", "at", "(Ljava/lang/String;IIC)C"⟩ : MethodName) (head1 (Jvm.Cond.code (⟨"com/example/seshat/seshat/jpql/DatabaseNamedPinLaw", "at", "(Ljava/lang/String;IIC)C"⟩ : MethodName) method_4_code 4 (some .char) :: ws) ({ frames := 4, cells := 0, slots := 0, locals := 60 } : Room)) (fun a U => a = #[(.ref a0), (.int p1), (.int p2), (.int p3)] ∧ Z.Warmed39 U.vm ∧ U.heap = h0) (fun _ _ _ _ _ => True) (fun _ U o U' => ∃ v L, o = .returned v ∧ Q4 Z cs_a0 w_COMPACT_STRINGS w_SIOOBE_FORMATTER a0 p1 p2 p3 h0 n0 v U'.heap L ∧ FrameEnd U o U' L ({ frames := 4, cells := 0, slots := 0, locals := 60 } : Room).cells ({ frames := 4, cells := 0, slots := 0, locals := 60 } : Room).slots) := by
  by_cases e1 : p1 = p2
  · exact own_mono (rm4a l Z A0 hw ws cs_a0 w_COMPACT_STRINGS w_SIOOBE_FORMATTER a0 p1 p2 p3 h0 n0 OLD x0 x1 x2 x3 x4 x5 x6 e1) (fun _ _ _ _ ⟨v, L, h1, ⟨h2, h3, h4⟩, h5⟩ => ⟨v, L, h1, ⟨_, h2, h3, h4, own_bn x1⟩, h5⟩)
  · by_cases e2 : p1 < (Int32.ofNat cs_a0.length)
    · exact own_mono (rm4b l Z A0 hw ws cs_a0 w_COMPACT_STRINGS w_SIOOBE_FORMATTER a0 p1 p2 p3 h0 n0 OLD x0 x1 x2 x3 x4 x5 x6 e1 e2) (fun _ _ _ _ ⟨v, L, h1, ⟨h2, h3, h4⟩, h5⟩ => ⟨v, L, h1, ⟨_, h2, h3, h4, own_bn (own_getB x0 _)⟩, h5⟩)
    · exact own_mono (rm4c l Z A0 hw ws cs_a0 w_COMPACT_STRINGS w_SIOOBE_FORMATTER a0 p1 p2 p3 h0 n0 OLD x0 x1 x2 x3 x4 x5 x6 e1 e2) (fun _ _ _ _ ⟨v, L, h1, ⟨h2, h3, h4⟩, h5⟩ => ⟨v, L, h1, ⟨_, h2, h3, h4, own_bn x1⟩, h5⟩)
theorem d11_0 : decode jdk_43_method_3_code 0 = .ok (.iload_n 0, 1) := by decide +kernel
theorem d11_1 : decode jdk_43_method_3_code 1 = .ok (.sipush 255, 3) := by decide +kernel
theorem d11_4 : decode jdk_43_method_3_code 4 = .ok (.if_icmp .gt 7, 3) := by decide +kernel
theorem d11_7 : decode jdk_43_method_3_code 7 = .ok (.iconst 1, 1) := by decide +kernel
theorem d11_8 : decode jdk_43_method_3_code 8 = .ok (.goto 4, 3) := by decide +kernel
theorem d11_12 : decode jdk_43_method_3_code 12 = .ok (.ireturn, 1) := by decide +kernel
theorem pn_java_lang_StringLatin1 : plainName "java/lang/StringLatin1" = true := by first | (simp [plainName, overriddenIn]; done) | decide +kernel
theorem ef_11 (m : MethodId) (x0 : Int32) : entryFrame m #[(.int x0)] 1 = mkF m 0 #[vI x0] [] := by first | (simp [entryFrame, mkF, argsToLocals, Value.category]; done) | rfl
def Q11 (Z : State) (p0 : Int32) (h0 : Heap) (n0 : Nat) (v : Option Value) (h : Heap) (L : List Loc) : Prop := v = some (.int (1 : Int32)) ∧ Fr n0 L ∧ h = h0
set_option maxRecDepth 65536 in
set_option maxHeartbeats 40000000 in
theorem rm11 (l : Launch) (Z : State) (A0 : Array Value) (hw : ∀ d ∈ tables_1, d.before A0 Z = true) (ws : List Jvm.Cond) (p0 : Int32) (h0 : Heap) (n0 : Nat) (OLD : Old Z n0 h0) (c_1 : ¬ ((255 : Int32) < p0)) :
    MetFree l (⟨"java/lang/StringLatin1", "canEncode", "(C)Z"⟩ : MethodName) (head1 (Jvm.Cond.code (⟨"java/lang/StringLatin1", "canEncode", "(C)Z"⟩ : MethodName) jdk_43_method_3_code 1 (some .boolean) :: ws) ({ frames := 0, cells := 0, slots := 0, locals := 0 } : Room)) (fun a U => a = #[(.int p0)] ∧ Z.Warmed39 U.vm ∧ U.heap = h0) (fun _ _ _ _ _ => True) (fun _ U o U' => ∃ v L, o = .returned v ∧ Q11 Z p0 h0 n0 v U'.heap L ∧ FrameEnd U o U' L ({ frames := 0, cells := 0, slots := 0, locals := 0 } : Room).cells ({ frames := 0, cells := 0, slots := 0, locals := 0 } : Room).slots) := by
  refine MetFree.of_bodySF (plainFor_of_name pn_java_lang_StringLatin1) hisR ?_
  intro p e s m args below meth c s₁ Bd hml0 hP hK
  obtain ⟨rfl, hZ, hh⟩ := hP
  have hx := Bd.exec
  have hby := Bd.bytes
  have hml : c.maxLocals = 1 := hml0
  have hown : s.vm.findClass "java/lang/StringLatin1" = some m.cls := findClass_of_methodNamed Bd.named
  have hnm := (name_of_methodNamed Bd.named Bd.method).1
  have X0 : Stand p l e ({ frames := 0, cells := 0, slots := 0, locals := 0 } : Room) s m #[(.int p0)] below meth c s₁ [] 0 0 := Stand.of_body Bd
  have e0 : s₁.heap = h0 := by rw [← hh, Bd.state]; rfl
  have N0 := Fr.nil n0
  have pre0 : ∀ t, Steps p.tables e below (s₁.setTop (mkF m 0 #[vI p0] [])) t → Steps p.tables e below (s₁.setTop (entryFrame m #[(.int p0)] 1)) t := fun t k => castTop (ef_11 m p0) k
  obtain ⟨fs, hr, hrun, hended, hW, hsame⟩ := X0.leave (v := some (.int (1 : Int32))) (fun h => by rw [Bd.returns] at h; cases h)
  refine ⟨_, _, pre0 _ ?_, hrun, hended, _, _, rfl, ?_, ⟨_, rfl⟩, hW, hsame.mono (by decide) (by decide)⟩
  · show Steps p.tables e below (s₁.setTop (mkF m 0 #[vI p0] [])) _
    refine XS.iloadN X0.here hx rfl (hb hby d11_0) rfl ?_
    refine XS.sipush X0.here hx rfl (hb hby d11_1) ?_
    show Steps p.tables e below (s₁.setTop (mkF m 4 #[vI p0] [(.int (255 : Int32)), (.int p0)])) _
    refine XS.icmpNo X0.here hx rfl (hb hby d11_4) rfl (flt c_1).2.2.1 ?_
    refine XS.iconst X0.here hx rfl (hb hby d11_7) ?_
    show Steps p.tables e below (s₁.setTop (mkF m 8 #[vI p0] [(.int (1 : Int32))])) _
    refine XS.goto X0.here hx rfl (pc0 := 8) (pc' := 12) rfl (hb hby d11_8) (by decide) (by decide) ?_
    show Steps p.tables e below (s₁.setTop (mkF m 12 #[vI p0] [(.int (1 : Int32))])) _
    exact retN X0 hx (t := .boolean) Bd.returns (by simp) (hb hby d11_12) hr
  · show Q11 Z p0 h0 n0 _ s₁.heap _
    rw [e0]
    exact ⟨rfl, N0, rfl⟩
theorem d12_0 : decode jdk_43_method_46_code 0 = .ok (.iconst 1, 1) := by decide +kernel
theorem d12_1 : decode jdk_43_method_46_code 1 = .ok (.newarray .byte, 2) := by decide +kernel
theorem d12_3 : decode jdk_43_method_46_code 3 = .ok (.dup, 1) := by decide +kernel
theorem d12_4 : decode jdk_43_method_46_code 4 = .ok (.iconst 0, 1) := by decide +kernel
theorem d12_5 : decode jdk_43_method_46_code 5 = .ok (.iload_n 0, 1) := by decide +kernel
theorem d12_6 : decode jdk_43_method_46_code 6 = .ok (.i2b, 1) := by decide +kernel
theorem d12_7 : decode jdk_43_method_46_code 7 = .ok (.bastore, 1) := by decide +kernel
theorem d12_8 : decode jdk_43_method_46_code 8 = .ok (.areturn, 1) := by decide +kernel
theorem ef_12 (m : MethodId) (x0 : Int32) : entryFrame m #[(.int x0)] 1 = mkF m 0 #[vI x0] [] := by first | (simp [entryFrame, mkF, argsToLocals, Value.category]; done) | rfl
def Q12 (Z : State) (p0 : Int32) (h0 : Heap) (n0 : Nat) (v : Option Value) (h : Heap) (L : List Loc) : Prop := ∃ b1 : Addr, ∃ k1 : ClassId, v = some (.ref b1) ∧ Fr n0 L ∧ Keep h0 h [] ∧ h0.size ≤ b1 ∧ Arv Z h b1 k1 .byte (1 : Int32) [(.int (nar .byte (p0.toInt8.toInt32)))] (.int (0 : Int32))
set_option maxRecDepth 65536 in
set_option maxHeartbeats 40000000 in
theorem rm12 (l : Launch) (Z : State) (A0 : Array Value) (hw : ∀ d ∈ tables_1, d.before A0 Z = true) (ws : List Jvm.Cond) (p0 : Int32) (h0 : Heap) (n0 : Nat) (OLD : Old Z n0 h0) :
    MetFree l (⟨"java/lang/StringLatin1", "toBytes", "(C)[B"⟩ : MethodName) (head1 (Jvm.Cond.code (⟨"java/lang/StringLatin1", "toBytes", "(C)[B"⟩ : MethodName) jdk_43_method_46_code 1 (some (.array .byte)) :: ws) ({ frames := 0, cells := 1, slots := 1, locals := 0 } : Room)) (fun a U => a = #[(.int p0)] ∧ Z.Warmed39 U.vm ∧ U.heap = h0) (fun _ _ _ _ _ => True) (fun _ U o U' => ∃ v L, o = .returned v ∧ Q12 Z p0 h0 n0 v U'.heap L ∧ FrameEnd U o U' L ({ frames := 0, cells := 1, slots := 1, locals := 0 } : Room).cells ({ frames := 0, cells := 1, slots := 1, locals := 0 } : Room).slots) := by
  refine MetFree.of_bodySF (plainFor_of_name pn_java_lang_StringLatin1) hisR ?_
  intro p e s m args below meth c s₁ Bd hml0 hP hK
  obtain ⟨rfl, hZ, hh⟩ := hP
  have hx := Bd.exec
  have hby := Bd.bytes
  have hml : c.maxLocals = 1 := hml0
  have hown : s.vm.findClass "java/lang/StringLatin1" = some m.cls := findClass_of_methodNamed Bd.named
  have hnm := (name_of_methodNamed Bd.named Bd.method).1
  have X0 : Stand p l e ({ frames := 0, cells := 1, slots := 1, locals := 0 } : Room) s m #[(.int p0)] below meth c s₁ [] 0 0 := Stand.of_body Bd
  have e0 : s₁.heap = h0 := by rw [← hh, Bd.state]; rfl
  have N0 := Fr.nil n0
  have pre0 : ∀ t, Steps p.tables e below (s₁.setTop (mkF m 0 #[vI p0] [])) t → Steps p.tables e below (s₁.setTop (entryFrame m #[(.int p0)] 1)) t := fun t k => castTop (ef_12 m p0) k
  obtain ⟨T1, h1, k1, X1, e1, E1, A1, st1⟩ := newP X0 hx hZ (hw _ (List.mem_of_getElem? (i := 4) rfl)) e0 (g := (mkF m 1 #[vI p0] [(.int (1 : Int32))])) rfl (hb hby d12_1) rfl (by decide) (cap := 1) (by decide) (by decide) (by decide) (by decide)
  obtain ⟨b1, g1⟩ : ∃ z, z = h0.size := ⟨_, rfl⟩
  rw [← g1] at A1 st1
  have K_2 : Keep h0 h1 [] := (Keep.refl h0 []).ext E1
  have f_3 : Arv Z h1 b1 k1 .byte (1 : Int32) [(.int (0 : Int32))] (.int (0 : Int32)) := (Arv.new A1 (by decide)).pad (pad_rep [] (.int (0 : Int32)) 1)
  obtain ⟨cl4, Ar4, q4, s4, n4, hh4, gg4⟩ := id (f_3)
  have hin4 : ¬ ((0 : Int32) < 0 ∨ cl4.slots.size ≤ ((0 : Int32)).toNatClampNeg) := inb_of s4 ⟨by decide, by decide⟩
  obtain ⟨T5, h5, X5, e5, W5, st5⟩ := stB X1 hx hZ e1 Ar4 (j := (0 : Int32)) hin4 (g := (mkF m 7 #[vI p0] [(.int (p0.toInt8.toInt32)), (.int (0 : Int32)), (.ref b1), (.ref b1)])) rfl rfl (hb hby d12_7)
  have ge_6 : n0 ≤ b1 := own_ge OLD (Nat.le_of_eq g1.symm)
  have N5 := Fr.snoc X5 N0 ge_6
  have f_7 : Arv Z h5 b1 k1 .byte (1 : Int32) [(.int (nar .byte (p0.toInt8.toInt32)))] (.int (0 : Int32)) := Arv.set Ar4 q4 s4 n4 hh4 gg4 (fits_nar_byte _) W5 0 rfl (Nat.le_of_ble_eq_true rfl)
  have K_8 : Keep h0 h5 [] := K_2.wr W5 (Or.inr (Nat.le_trans (Keep.refl h0 []).1 (Nat.le_of_eq g1.symm)))
  obtain ⟨fs, hr, hrun, hended, hW, hsame⟩ := X5.leave (v := some (.ref b1)) (fun h => by rw [Bd.returns] at h; cases h)
  refine ⟨_, _, pre0 _ ?_, hrun, hended, _, _, rfl, ?_, ⟨_, rfl⟩, hW, hsame.mono (by decide) (by decide)⟩
  · show Steps p.tables e below (s₁.setTop (mkF m 0 #[vI p0] [])) _
    refine XS.iconst X0.here hx rfl (hb hby d12_0) ?_
    refine st1 _ ?_
    show Steps p.tables e below (T1.setTop (mkF m 3 #[vI p0] [(.ref b1)])) _
    refine XS.dup X1.here hx rfl (hb hby d12_3) rfl rfl ?_
    refine XS.iconst X1.here hx rfl (hb hby d12_4) ?_
    show Steps p.tables e below (T1.setTop (mkF m 5 #[vI p0] [(.int (0 : Int32)), (.ref b1), (.ref b1)])) _
    refine XS.iloadN X1.here hx rfl (hb hby d12_5) rfl ?_
    refine XS.i2b X1.here hx rfl (hb hby d12_6) rfl ?_
    show Steps p.tables e below (T1.setTop (mkF m 7 #[vI p0] [(.int (p0.toInt8.toInt32)), (.int (0 : Int32)), (.ref b1), (.ref b1)])) _
    refine st5 _ ?_
    show Steps p.tables e below (T5.setTop (mkF m 8 #[vI p0] [(.ref b1)])) _
    jvm_step X5.here [X5.here.top, hx, (hb hby d12_8), X5.method', Bd.returns, Value.isRef, FieldType.isReference]
    first | (intro acts; rw [hr _ acts rfl rfl rfl]) | rw [hr _ _ rfl rfl rfl]
    exact Steps.refl _
  · show Q12 Z p0 h0 n0 _ T5.heap _
    rw [e5]
    exact ⟨b1, k1, rfl, N5, K_8, (Nat.le_trans (Keep.refl h0 []).1 (Nat.le_of_eq g1.symm)), f_7⟩
theorem d13_0 : decode jdk_42_method_151_code 0 = .ok (.aload_n 0, 1) := by decide +kernel
theorem d13_1 : decode jdk_42_method_151_code 1 = .ok (.invokespecial 1, 3) := by decide +kernel
theorem d13_4 : decode jdk_42_method_151_code 4 = .ok (.aload_n 0, 1) := by decide +kernel
theorem d13_5 : decode jdk_42_method_151_code 5 = .ok (.aload_n 1, 1) := by decide +kernel
theorem d13_6 : decode jdk_42_method_151_code 6 = .ok (.putfield 9, 3) := by decide +kernel
theorem d13_9 : decode jdk_42_method_151_code 9 = .ok (.aload_n 0, 1) := by decide +kernel
theorem d13_10 : decode jdk_42_method_151_code 10 = .ok (.iload_n 2, 1) := by decide +kernel
theorem d13_11 : decode jdk_42_method_151_code 11 = .ok (.putfield 15, 3) := by decide +kernel
theorem d13_14 : decode jdk_42_method_151_code 14 = .ok (.return_, 1) := by decide +kernel
theorem pn_java_lang_String : plainName "java/lang/String" = true := by first | (simp [plainName, overriddenIn]; done) | decide +kernel
theorem ef_13 (m : MethodId) (x0 : Addr) (x1 : Addr) (x2 : Int32) : entryFrame m #[(.ref x0), (.ref x1), (.int x2)] 3 = mkF m 0 #[vR x0, vR x1, vI x2] [] := by first | (simp [entryFrame, mkF, argsToLocals, Value.category]; done) | rfl
def Q13 (Z : State) (a0 : Addr) (a1 : Addr) (p2 : Int32) (u_value_a0 : Value) (u_coder_a0 : Value) (h0 : Heap) (n0 : Nat) (v : Option Value) (h : Heap) (L : List Loc) : Prop := v = none ∧ Fr n0 L ∧ Keep h0 h [a0] ∧ Exa Z h a0 "java/lang/String" ∧ Fld Z h a0 "java/lang/String" "value" "[B" (.ref a1) ∧ Fld Z h a0 "java/lang/String" "coder" "B" (.int (nar .byte p2))
set_option maxRecDepth 65536 in
set_option maxHeartbeats 40000000 in
theorem rm13 (l : Launch) (Z : State) (A0 : Array Value) (hw : ∀ d ∈ tables_1, d.before A0 Z = true) (ws : List Jvm.Cond) (a0 : Addr) (a1 : Addr) (p2 : Int32) (u_value_a0 : Value) (u_coder_a0 : Value) (h0 : Heap) (n0 : Nat) (OLD : Old Z n0 h0) (f_2 : Exa Z h0 a0 "java/lang/String") (f_3 : Fld Z h0 a0 "java/lang/String" "value" "[B" u_value_a0) (ge_a0 : n0 ≤ a0) (f_8 : Fld Z h0 a0 "java/lang/String" "coder" "B" u_coder_a0) :
    MetFree l (⟨"java/lang/String", "<init>", "([BB)V"⟩ : MethodName) (head1 (Jvm.Cond.code (⟨"java/lang/String", "<init>", "([BB)V"⟩ : MethodName) jdk_42_method_151_code 3 none :: ws) ({ frames := 1, cells := 0, slots := 0, locals := 12 } : Room)) (fun a U => a = #[(.ref a0), (.ref a1), (.int p2)] ∧ Z.Warmed39 U.vm ∧ U.heap = h0) (fun _ _ _ _ _ => True) (fun _ U o U' => ∃ v L, o = .returned v ∧ Q13 Z a0 a1 p2 u_value_a0 u_coder_a0 h0 n0 v U'.heap L ∧ FrameEnd U o U' L ({ frames := 1, cells := 0, slots := 0, locals := 12 } : Room).cells ({ frames := 1, cells := 0, slots := 0, locals := 12 } : Room).slots) := by
  refine MetFree.of_bodySF (plainFor_of_name pn_java_lang_String) hisR ?_
  intro p e s m args below meth c s₁ Bd hml0 hP hK
  obtain ⟨rfl, hZ, hh⟩ := hP
  have hx := Bd.exec
  have hby := Bd.bytes
  have hml : c.maxLocals = 3 := hml0
  have hown : s.vm.findClass "java/lang/String" = some m.cls := findClass_of_methodNamed Bd.named
  have hnm := (name_of_methodNamed Bd.named Bd.method).1
  have X0 : Stand p l e ({ frames := 1, cells := 0, slots := 0, locals := 12 } : Room) s m #[(.ref a0), (.ref a1), (.int p2)] below meth c s₁ [] 0 0 := Stand.of_body Bd
  have e0 : s₁.heap = h0 := by rw [← hh, Bd.state]; rfl
  have N0 := Fr.nil n0
  have pre0 : ∀ t, Steps p.tables e below (s₁.setTop (mkF m 0 #[vR a0, vR a1, vI p2] [])) t → Steps p.tables e below (s₁.setTop (entryFrame m #[(.ref a0), (.ref a1), (.int p2)] 3)) t := fun t k => castTop (ef_13 m a0 a1 p2) k
  obtain ⟨T1, X1, e1, st1⟩ := initO X0 hx hZ hown (hw _ (List.mem_of_getElem? (i := 65) rfl)) (hw _ (List.mem_of_getElem? (i := 66) rfl)) (hw _ (List.mem_of_getElem? (i := 67) rfl)) e0 (g := (mkF m 1 #[vR a0, vR a1, vI p2] [(.ref a0)])) rfl (by rw [hml]; rfl) rfl (hb hby d13_1) (by decide) (W := 0) (by show 2 * 0 + _ ≤ _; exact Nat.le_of_eq rfl) (by decide)
  obtain ⟨T4, h4, X4, e4, W4, st4⟩ := putF X1 hx hZ hown (host := "") (Or.inl (hw _ (List.mem_of_getElem? (i := 14) rfl))) Via.refl e1 f_3 f_2 (Or.inr ⟨(hw _ (List.mem_of_getElem? (i := 5) rfl)), rfl, hnm⟩) (hw _ (List.mem_of_getElem? (i := 3) rfl)) (ty := (.array .byte)) (by decide) rfl rfl (g := (mkF m 6 #[vR a0, vR a1, vI p2] [(.ref a1), (.ref a0)])) rfl rfl (hb hby d13_6)
  have N4 := Fr.snoc X4 N0 ge_a0
  have f_5 := f_3.same W4
  have K_6 : Keep h0 h4 [a0] := (Keep.refl h0 [a0]).wr W4 (Or.inl (List.mem_of_getElem? (i := 0) rfl))
  have f_7 := f_2.wr W4
  have f_9 := f_8.other W4 (Or.inr (slot_ne (Or.inr (hw _ (List.mem_of_getElem? (i := 6) rfl))) (Or.inr (hw _ (List.mem_of_getElem? (i := 5) rfl))) (by decide) (t := .byte) (t' := (.array .byte)) (by decide) (by decide)))
  obtain ⟨T10, h10, X10, e10, W10, st10⟩ := putFN X4 hx hZ hown (hw _ (List.mem_of_getElem? (i := 21) rfl)) Via.refl e4 f_9 f_7 (Or.inr ⟨(hw _ (List.mem_of_getElem? (i := 6) rfl)), rfl, hnm⟩) (hw _ (List.mem_of_getElem? (i := 3) rfl)) (ty := .byte) (v' := (.int (nar .byte p2))) (by decide) rfl (fits_nar_byte _) (g := (mkF m 11 #[vR a0, vR a1, vI p2] [(.int p2), (.ref a0)])) rfl rfl (hb hby d13_11)
  have N10 := Fr.snoc X10 N4 ge_a0
  have f_11 := f_9.same W10
  have K_12 : Keep h0 h10 [a0] := K_6.wr W10 (Or.inl (List.mem_of_getElem? (i := 0) rfl))
  have f_13 := f_7.wr W10
  have f_14 := f_5.other W10 (Or.inr (slot_ne (Or.inr (hw _ (List.mem_of_getElem? (i := 5) rfl))) (Or.inr (hw _ (List.mem_of_getElem? (i := 6) rfl))) (by decide) (t := (.array .byte)) (t' := .byte) (by decide) (by decide)))
  obtain ⟨fs, hr, hrun, hended, hW, hsame⟩ := X10.leave (v := none) (fun _ => rfl)
  refine ⟨_, _, pre0 _ ?_, hrun, hended, _, _, rfl, ?_, ⟨_, rfl⟩, hW, hsame.mono (by decide) (by decide)⟩
  · show Steps p.tables e below (s₁.setTop (mkF m 0 #[vR a0, vR a1, vI p2] [])) _
    refine XS.aloadN X0.here hx rfl (hb hby d13_0) rfl rfl ?_
    refine st1 _ ?_
    show Steps p.tables e below (T1.setTop (mkF m 4 #[vR a0, vR a1, vI p2] [])) _
    refine XS.aloadN X1.here hx rfl (hb hby d13_4) rfl rfl ?_
    refine XS.aloadN X1.here hx rfl (hb hby d13_5) rfl rfl ?_
    show Steps p.tables e below (T1.setTop (mkF m 6 #[vR a0, vR a1, vI p2] [(.ref a1), (.ref a0)])) _
    refine st4 _ ?_
    refine XS.aloadN X4.here hx rfl (hb hby d13_9) rfl rfl ?_
    show Steps p.tables e below (T4.setTop (mkF m 10 #[vR a0, vR a1, vI p2] [(.ref a0)])) _
    refine XS.iloadN X4.here hx rfl (hb hby d13_10) rfl ?_
    refine st10 _ ?_
    show Steps p.tables e below (T10.setTop (mkF m 14 #[vR a0, vR a1, vI p2] [])) _
    exact X10.returnOut hx Bd.returns (hb hby d13_14) hr
  · show Q13 Z a0 a1 p2 u_value_a0 u_coder_a0 h0 n0 _ T10.heap _
    rw [e10]
    exact ⟨rfl, N10, K_12, f_13, f_14, f_11⟩
theorem pd_2 : parseMethodDescriptor "(C)Z" = some ⟨[.char], some .boolean⟩ := by decide +kernel
theorem pd_3 : parseMethodDescriptor "(C)[B" = some ⟨[.char], some (.array .byte)⟩ := by decide +kernel
theorem pd_4 : parseMethodDescriptor "([BB)V" = some ⟨[(.array .byte), .byte], none⟩ := by decide +kernel
theorem d10_0 : decode jdk_42_method_139_code 0 = .ok (.getstatic 38, 3) := by decide +kernel
theorem d10_3 : decode jdk_42_method_139_code 3 = .ok (.ifCond .eq 23, 3) := by decide +kernel
theorem d10_6 : decode jdk_42_method_139_code 6 = .ok (.iload_n 0, 1) := by decide +kernel
theorem d10_7 : decode jdk_42_method_139_code 7 = .ok (.invokestatic 1015, 3) := by decide +kernel
theorem d10_10 : decode jdk_42_method_139_code 10 = .ok (.ifCond .eq 16, 3) := by decide +kernel
theorem d10_13 : decode jdk_42_method_139_code 13 = .ok (.new 10, 3) := by decide +kernel
theorem d10_16 : decode jdk_42_method_139_code 16 = .ok (.dup, 1) := by decide +kernel
theorem d10_17 : decode jdk_42_method_139_code 17 = .ok (.iload_n 0, 1) := by decide +kernel
theorem d10_18 : decode jdk_42_method_139_code 18 = .ok (.invokestatic 1018, 3) := by decide +kernel
theorem d10_21 : decode jdk_42_method_139_code 21 = .ok (.iconst 0, 1) := by decide +kernel
theorem d10_22 : decode jdk_42_method_139_code 22 = .ok (.invokespecial 209, 3) := by decide +kernel
theorem d10_25 : decode jdk_42_method_139_code 25 = .ok (.areturn, 1) := by decide +kernel
theorem ef_10 (m : MethodId) (x0 : Int32) : entryFrame m #[(.int x0)] 1 = mkF m 0 #[vI x0] [] := by first | (simp [entryFrame, mkF, argsToLocals, Value.category]; done) | rfl
def Q10 (Z : State) (w_COMPACT_STRINGS : Int32) (p0 : Int32) (h0 : Heap) (n0 : Nat) (v : Option Value) (h : Heap) (L : List Loc) : Prop := ∃ b6 : Addr, v = some (.ref b6) ∧ Fr n0 L ∧ Keep h0 h [] ∧ h0.size ≤ b6 ∧ own_Txt Z h b6 ([p0] : List Int32)
set_option maxRecDepth 65536 in
set_option maxHeartbeats 40000000 in
theorem rm10 (l : Launch) (Z : State) (A0 : Array Value) (hw : ∀ d ∈ tables_1, d.before A0 Z = true) (ws : List Jvm.Cond) (w_COMPACT_STRINGS : Int32) (p0 : Int32) (h0 : Heap) (n0 : Nat) (OLD : Old Z n0 h0) (c_1 : ¬ (w_COMPACT_STRINGS = (0 : Int32))) (c_2 : own_B p0) (f_3 : Sta Z Z.heap "java/lang/String" "COMPACT_STRINGS" "Z" (.int w_COMPACT_STRINGS)) :
    MetFree l (⟨"java/lang/String", "valueOf", "(C)Ljava/lang/String;"⟩ : MethodName) (head1 (Jvm.Cond.code (⟨"java/lang/String", "valueOf", "(C)Ljava/lang/String;"⟩ : MethodName) jdk_42_method_139_code 1 (some (.object "java/lang/String")) :: ws) ({ frames := 2, cells := 2, slots := 5, locals := 27 } : Room)) (fun a U => a = #[(.int p0)] ∧ Z.Warmed39 U.vm ∧ U.heap = h0) (fun _ _ _ _ _ => True) (fun _ U o U' => ∃ v L, o = .returned v ∧ Q10 Z w_COMPACT_STRINGS p0 h0 n0 v U'.heap L ∧ FrameEnd U o U' L ({ frames := 2, cells := 2, slots := 5, locals := 27 } : Room).cells ({ frames := 2, cells := 2, slots := 5, locals := 27 } : Room).slots) := by
  refine MetFree.of_bodySF (plainFor_of_name pn_java_lang_String) hisR ?_
  intro p e s m args below meth c s₁ Bd hml0 hP hK
  obtain ⟨rfl, hZ, hh⟩ := hP
  have hx := Bd.exec
  have hby := Bd.bytes
  have hml : c.maxLocals = 1 := hml0
  have hown : s.vm.findClass "java/lang/String" = some m.cls := findClass_of_methodNamed Bd.named
  have hnm := (name_of_methodNamed Bd.named Bd.method).1
  have X0 : Stand p l e ({ frames := 2, cells := 2, slots := 5, locals := 27 } : Room) s m #[(.int p0)] below meth c s₁ [] 0 0 := Stand.of_body Bd
  have e0 : s₁.heap = h0 := by rw [← hh, Bd.state]; rfl
  have N0 := Fr.nil n0
  have pre0 : ∀ t, Steps p.tables e below (s₁.setTop (mkF m 0 #[vI p0] [])) t → Steps p.tables e below (s₁.setTop (entryFrame m #[(.int p0)] 1)) t := fun t k => castTop (ef_10 m p0) k
  obtain ⟨T4, X4, e4, st4⟩ := getS2 X0 hx hZ hown (host := "") (Or.inl (hw _ (List.mem_of_getElem? (i := 20) rfl))) Via.refl e0 (f_3.ext OLD.2) (g := (mkF m 0 #[vI p0] [])) rfl (hb hby d10_0)
  obtain ⟨_, _, ⟨T5, L5, k5, n5⟩, -, X5, ⟨Lc5, hQ5, l5, y5, z5⟩, st5⟩ := Jvm.LawKit.callS X4 hx (y := (⟨"java/lang/StringLatin1", "canEncode", "(C)Z"⟩ : MethodName)) hown (mvT hZ (hw _ (List.mem_of_getElem? (i := 54) rfl))) (mvT hZ (hw _ (List.mem_of_getElem? (i := 55) rfl))) (mvT hZ (hw _ (List.mem_of_getElem? (i := 41) rfl))) (mvT hZ (hw _ (List.mem_of_getElem? (i := 56) rfl))) (by decide) (backOf (W := 0) (rm11 l Z A0 hw [] p0 h0 n0 OLD c_2.2) hZ (hw _ (List.mem_of_getElem? (i := 56) rfl)) (hw _ (List.mem_of_getElem? (i := 41) rfl)) (by decide) (by decide)) (g := (mkF m 7 #[vI p0] [(.int p0)])) rfl (by rw [hml]; rfl) (argsL := [(.int p0)]) (rest := []) (lenOf pd_2 rfl) rfl (by show 2 * 0 + _ ≤ _; exact Nat.le_of_eq rfl) (hb hby d10_7) (fun _ _ => ⟨rfl, e4, (by decide : 0 + 0 ≤ _), (by decide : 0 + 0 ≤ _)⟩)
  dsimp only [Pt.U, Pt.locs, Pt.cells, Pt.slots] at X5 l5 y5 z5 st5 hQ5
  subst l5 y5 z5
  obtain ⟨rfl, N5q, e5⟩ := hQ5
  have N5 := Fr.app N0 N5q
  obtain ⟨T6, h6, X6, e6, E6, A6, D6, M6, st6⟩ := newO X5 hx hZ hown (hw _ (List.mem_of_getElem? (i := 57) rfl)) (hw _ (List.mem_of_getElem? (i := 3) rfl)) (hw _ (List.mem_of_getElem? (i := 2) rfl)) e5 (g := (mkF m 13 #[vI p0] [])) rfl (hb hby d10_13) (by decide) (by decide)
  obtain ⟨b6, g6⟩ : ∃ z, z = h0.size := ⟨_, rfl⟩
  rw [← g6] at A6 D6 M6 st6
  have K_7 : Keep h0 h6 [] := (Keep.refl h0 []).ext E6
  have f_8 : Fld Z h6 b6 "java/lang/String" "value" "[B" .null := (D6 (Or.inr (hw _ (List.mem_of_getElem? (i := 5) rfl))) (ty := (.array .byte)) (by decide))
  have f_9 : Fld Z h6 b6 "java/lang/String" "coder" "B" (.int (0 : Int32)) := (D6 (Or.inr (hw _ (List.mem_of_getElem? (i := 6) rfl))) (ty := .byte) (by decide))
  have O_11 := Old.ext OLD E6
  obtain ⟨_, _, ⟨T10, L10, k10, n10⟩, -, X10, ⟨Lc10, hQ10, l10, y10, z10⟩, st10⟩ := Jvm.LawKit.callS X6 hx (y := (⟨"java/lang/StringLatin1", "toBytes", "(C)[B"⟩ : MethodName)) hown (mvT hZ (hw _ (List.mem_of_getElem? (i := 58) rfl))) (mvT hZ (hw _ (List.mem_of_getElem? (i := 59) rfl))) (mvT hZ (hw _ (List.mem_of_getElem? (i := 41) rfl))) (mvT hZ (hw _ (List.mem_of_getElem? (i := 60) rfl))) (by decide) (backOf (W := 2) (rm12 l Z A0 hw [] p0 h6 n0 O_11 ) hZ (hw _ (List.mem_of_getElem? (i := 60) rfl)) (hw _ (List.mem_of_getElem? (i := 41) rfl)) (by decide) (by decide)) (g := (mkF m 18 #[vI p0] [(.int p0), (.ref b6), (.ref b6)])) rfl (by rw [hml]; rfl) (argsL := [(.int p0)]) (rest := [(.ref b6), (.ref b6)]) (lenOf pd_3 rfl) rfl (by show 2 * 0 + _ ≤ _; exact Nat.le_of_eq rfl) (hb hby d10_18) (fun _ _ => ⟨rfl, e6, (by decide : 1 + 1 ≤ _), (by decide : 4 + 1 ≤ _)⟩)
  dsimp only [Pt.U, Pt.locs, Pt.cells, Pt.slots] at X10 l10 y10 z10 st10 hQ10
  subst l10 y10 z10
  obtain ⟨b1_10, k1_10, rfl, N10q, K10, g10_0, g10_1⟩ := hQ10
  have N10 := Fr.app N5 N10q
  have K_12 : Keep h0 T10.heap [] := Keep.trans K_7 K10 all0
  have f_13 := A6.keep K10
  have f_14 := f_8.keep K10 nin0
  have ge_15 : n0 ≤ b6 := own_ge OLD (Nat.le_of_eq g6.symm)
  have f_16 := f_9.keep K10 nin0
  have O_18 := Old.keep O_11 K10 all0
  obtain ⟨_, _, ⟨T17, L17, k17, n17⟩, -, X17, ⟨Lc17, hQ17, l17, y17, z17⟩, st17⟩ := X10.specialBack hx (y := (⟨"java/lang/String", "<init>", "([BB)V"⟩ : MethodName)) rfl hown (mvT hZ (hw _ (List.mem_of_getElem? (i := 61) rfl))) (mvT hZ (hw _ (List.mem_of_getElem? (i := 62) rfl))) (mvT hZ (hw _ (List.mem_of_getElem? (i := 64) rfl))) (by decide) (backOf (W := 1) (rm13 l Z A0 hw [] b6 b1_10 (0 : Int32) .null (.int (0 : Int32)) T10.heap n0 O_18 f_13 f_14 ge_15 f_16) hZ (hw _ (List.mem_of_getElem? (i := 64) rfl)) (hw _ (List.mem_of_getElem? (i := 2) rfl)) (by decide) (by decide)) (g := (mkF m 22 #[vI p0] [(.int (0 : Int32)), (.ref b1_10), (.ref b6), (.ref b6)])) rfl (by rw [hml]; rfl) (Steps.refl _) (a := b6) (argsL := [(.ref b1_10), (.int (0 : Int32))]) (rest := [(.ref b6)]) (lenOf pd_4 rfl) rfl (by show 2 * 0 + _ ≤ _; exact Nat.le_of_eq rfl) (hb hby d10_22) (fun _ _ => ⟨rfl, rfl, (by decide : 2 + 0 ≤ _), (by decide : 5 + 0 ≤ _)⟩)
  dsimp only [Pt.U, Pt.locs, Pt.cells, Pt.slots] at X17 l17 y17 z17 st17 hQ17
  subst l17 y17 z17
  obtain ⟨rfl, N17q, K17, g17_0, g17_1, g17_2⟩ := hQ17
  have N17 := Fr.app N10 N17q
  have K_19 : Keep h0 T17.heap [] := Keep.trans K_12 K17 (allS (Or.inr (Nat.le_trans (Keep.refl h0 []).1 (Nat.le_of_eq g6.symm))) all0)
  have ne_20 : b1_10 ≠ b6 := Ne.symm (Nat.ne_of_lt (Nat.lt_of_lt_of_le A6.lt g10_0))
  have f_21 := g10_1.keep K17 (ninS ne_20 nin0)
  obtain ⟨fs, hr, hrun, hended, hW, hsame⟩ := X17.leave (v := some (.ref b6)) (fun h => by rw [Bd.returns] at h; cases h)
  refine ⟨_, _, pre0 _ ?_, hrun, hended, _, _, rfl, ?_, ⟨_, rfl⟩, hW, hsame.mono (by decide) (by decide)⟩
  · show Steps p.tables e below (s₁.setTop (mkF m 0 #[vI p0] [])) _
    refine st4 _ ?_
    refine XS.ifNo X4.here hx rfl (hb hby d10_3) rfl ((if0 _ _).trans (feq c_1).1) ?_
    show Steps p.tables e below (T4.setTop (mkF m 6 #[vI p0] [])) _
    refine XS.iloadN X4.here hx rfl (hb hby d10_6) rfl ?_
    refine st5 _ ?_
    show Steps p.tables e below (T5.setTop (mkF m 10 #[vI p0] [(.int (1 : Int32))])) _
    refine XS.ifNo X5.here hx rfl (hb hby d10_10) rfl ((if0 _ _).trans (feq (by decide : ¬ ((1 : Int32) = (0 : Int32)))).1) ?_
    refine st6 _ ?_
    show Steps p.tables e below (T6.setTop (mkF m 16 #[vI p0] [(.ref b6)])) _
    refine XS.dup X6.here hx rfl (hb hby d10_16) rfl rfl ?_
    refine XS.iloadN X6.here hx rfl (hb hby d10_17) rfl ?_
    show Steps p.tables e below (T6.setTop (mkF m 18 #[vI p0] [(.int p0), (.ref b6), (.ref b6)])) _
    refine st10 _ ?_
    refine XS.iconst X10.here hx rfl (hb hby d10_21) ?_
    show Steps p.tables e below (T10.setTop (mkF m 22 #[vI p0] [(.int (0 : Int32)), (.ref b1_10), (.ref b6), (.ref b6)])) _
    refine st17.trans ?_
    show Steps p.tables e below (T17.setTop (mkF m 25 #[vI p0] [(.ref b6)])) _
    jvm_step X17.here [X17.here.top, hx, (hb hby d10_25), X17.method', Bd.returns, Value.isRef, FieldType.isReference]
    first | (intro acts; rw [hr _ acts rfl rfl rfl]) | rw [hr _ _ rfl rfl rfl]
    exact Steps.refl _
  · show Q10 Z w_COMPACT_STRINGS p0 h0 n0 _ T17.heap _
    exact ⟨b6, rfl, N17, K_19, (Nat.le_trans (Keep.refl h0 []).1 (Nat.le_of_eq g6.symm)), (own_txt1 g17_0 g17_1 g17_2 f_21 c_2)⟩
theorem pd_5 : parseMethodDescriptor "(Ljava/lang/String;IIC)C" = some ⟨[(.object "java/lang/String"), .int, .int, .char], some .char⟩ := by decide +kernel
theorem d3_0 : decode method_5_code 0 = .ok (.aload_n 0, 1) := by decide +kernel
theorem d3_1 : decode method_5_code 1 = .ok (.iconst 0, 1) := by decide +kernel
theorem d3_2 : decode method_5_code 2 = .ok (.iload_n 2, 1) := by decide +kernel
theorem d3_3 : decode method_5_code 3 = .ok (.iload_n 3, 1) := by decide +kernel
theorem d3_4 : decode method_5_code 4 = .ok (.invokestatic 60, 3) := by decide +kernel
theorem d3_7 : decode method_5_code 7 = .ok (.istore 4, 2) := by decide +kernel
theorem d3_9 : decode method_5_code 9 = .ok (.aload_n 0, 1) := by decide +kernel
theorem d3_10 : decode method_5_code 10 = .ok (.iconst 1, 1) := by decide +kernel
theorem d3_11 : decode method_5_code 11 = .ok (.iload_n 2, 1) := by decide +kernel
theorem d3_12 : decode method_5_code 12 = .ok (.iload_n 3, 1) := by decide +kernel
theorem d3_13 : decode method_5_code 13 = .ok (.invokestatic 60, 3) := by decide +kernel
theorem d3_16 : decode method_5_code 16 = .ok (.istore 5, 2) := by decide +kernel
theorem d3_18 : decode method_5_code 18 = .ok (.aload_n 0, 1) := by decide +kernel
theorem d3_19 : decode method_5_code 19 = .ok (.iconst 2, 1) := by decide +kernel
theorem d3_20 : decode method_5_code 20 = .ok (.iload_n 2, 1) := by decide +kernel
theorem d3_21 : decode method_5_code 21 = .ok (.iload_n 3, 1) := by decide +kernel
theorem d3_22 : decode method_5_code 22 = .ok (.invokestatic 60, 3) := by decide +kernel
theorem d3_25 : decode method_5_code 25 = .ok (.istore 6, 2) := by decide +kernel
theorem d3_27 : decode method_5_code 27 = .ok (.aload_n 0, 1) := by decide +kernel
theorem d3_28 : decode method_5_code 28 = .ok (.iconst 3, 1) := by decide +kernel
theorem d3_29 : decode method_5_code 29 = .ok (.iload_n 2, 1) := by decide +kernel
theorem d3_30 : decode method_5_code 30 = .ok (.iload_n 3, 1) := by decide +kernel
theorem d3_31 : decode method_5_code 31 = .ok (.invokestatic 60, 3) := by decide +kernel
theorem d3_34 : decode method_5_code 34 = .ok (.istore 7, 2) := by decide +kernel
theorem d3_36 : decode method_5_code 36 = .ok (.aload_n 0, 1) := by decide +kernel
theorem d3_37 : decode method_5_code 37 = .ok (.iconst 4, 1) := by decide +kernel
theorem d3_38 : decode method_5_code 38 = .ok (.iload_n 2, 1) := by decide +kernel
theorem d3_39 : decode method_5_code 39 = .ok (.iload_n 3, 1) := by decide +kernel
theorem d3_40 : decode method_5_code 40 = .ok (.invokestatic 60, 3) := by decide +kernel
theorem d3_43 : decode method_5_code 43 = .ok (.istore 8, 2) := by decide +kernel
theorem d3_45 : decode method_5_code 45 = .ok (.aload_n 0, 1) := by decide +kernel
theorem d3_46 : decode method_5_code 46 = .ok (.iconst 5, 1) := by decide +kernel
theorem d3_47 : decode method_5_code 47 = .ok (.iload_n 2, 1) := by decide +kernel
theorem d3_48 : decode method_5_code 48 = .ok (.iload_n 3, 1) := by decide +kernel
theorem d3_49 : decode method_5_code 49 = .ok (.invokestatic 60, 3) := by decide +kernel
theorem d3_52 : decode method_5_code 52 = .ok (.istore 9, 2) := by decide +kernel
theorem d3_54 : decode method_5_code 54 = .ok (.aload_n 0, 1) := by decide +kernel
theorem d3_55 : decode method_5_code 55 = .ok (.bipush 6, 2) := by decide +kernel
theorem d3_57 : decode method_5_code 57 = .ok (.iload_n 2, 1) := by decide +kernel
theorem d3_58 : decode method_5_code 58 = .ok (.iload_n 3, 1) := by decide +kernel
theorem d3_59 : decode method_5_code 59 = .ok (.invokestatic 60, 3) := by decide +kernel
theorem d3_62 : decode method_5_code 62 = .ok (.istore 10, 2) := by decide +kernel
theorem d3_64 : decode method_5_code 64 = .ok (.aload_n 0, 1) := by decide +kernel
theorem d3_65 : decode method_5_code 65 = .ok (.bipush 7, 2) := by decide +kernel
theorem d3_67 : decode method_5_code 67 = .ok (.iload_n 2, 1) := by decide +kernel
theorem d3_68 : decode method_5_code 68 = .ok (.iload_n 3, 1) := by decide +kernel
theorem d3_69 : decode method_5_code 69 = .ok (.invokestatic 60, 3) := by decide +kernel
theorem d3_72 : decode method_5_code 72 = .ok (.istore 11, 2) := by decide +kernel
theorem d3_74 : decode method_5_code 74 = .ok (.aload_n 0, 1) := by decide +kernel
theorem d3_75 : decode method_5_code 75 = .ok (.bipush 8, 2) := by decide +kernel
theorem d3_77 : decode method_5_code 77 = .ok (.iload_n 2, 1) := by decide +kernel
theorem d3_78 : decode method_5_code 78 = .ok (.iload_n 3, 1) := by decide +kernel
theorem d3_79 : decode method_5_code 79 = .ok (.invokestatic 60, 3) := by decide +kernel
theorem d3_82 : decode method_5_code 82 = .ok (.istore 12, 2) := by decide +kernel
theorem d3_84 : decode method_5_code 84 = .ok (.aload_n 0, 1) := by decide +kernel
theorem d3_85 : decode method_5_code 85 = .ok (.bipush 9, 2) := by decide +kernel
theorem d3_87 : decode method_5_code 87 = .ok (.iload_n 2, 1) := by decide +kernel
theorem d3_88 : decode method_5_code 88 = .ok (.iload_n 3, 1) := by decide +kernel
theorem d3_89 : decode method_5_code 89 = .ok (.invokestatic 60, 3) := by decide +kernel
theorem d3_92 : decode method_5_code 92 = .ok (.istore 13, 2) := by decide +kernel
theorem d3_94 : decode method_5_code 94 = .ok (.aload_n 0, 1) := by decide +kernel
theorem d3_95 : decode method_5_code 95 = .ok (.bipush 10, 2) := by decide +kernel
theorem d3_97 : decode method_5_code 97 = .ok (.iload_n 2, 1) := by decide +kernel
theorem d3_98 : decode method_5_code 98 = .ok (.iload_n 3, 1) := by decide +kernel
theorem d3_99 : decode method_5_code 99 = .ok (.invokestatic 60, 3) := by decide +kernel
theorem d3_102 : decode method_5_code 102 = .ok (.istore 14, 2) := by decide +kernel
set_option maxRecDepth 65536 in
set_option maxHeartbeats 40000000 in
theorem rm3s (l : Launch) (Z : State) (A0 : Array Value) (hw : ∀ d ∈ tables_1, d.before A0 Z = true) (cs_a0 : List Int32) (w_COMPACT_STRINGS : Int32) (w_SIOOBE_FORMATTER : Value) (a0 : Addr) (p1 : Int32) (p2 : Int32) (p3 : Int32) (h0 : Heap) (n0 : Nat) (OLD : Old Z n0 h0) (f_1 : own_Txt Z h0 a0 cs_a0) (c_2 : own_B p3) (f_3 : Sta Z Z.heap "java/lang/String" "COMPACT_STRINGS" "Z" (.int w_COMPACT_STRINGS)) (c_4 : ¬ (w_COMPACT_STRINGS = (0 : Int32))) (f_5 : Sta Z Z.heap "jdk/internal/util/Preconditions" "SIOOBE_FORMATTER" "Ljava/util/function/BiFunction;" w_SIOOBE_FORMATTER) (c_6 : w_SIOOBE_FORMATTER.isRef = true)
    {p : Program} {e : Env} {s : State} {m : MethodId} {below : List Frame} {meth : Method} {c : Code} {s₁ : State} (X0 : Stand p l e ({ frames := 6, cells := 3, slots := 40, locals := 120 } : Room) s m #[(.ref a0), (.int p1), (.int p2), (.int p3)] below meth c s₁ [] 0 0) (hx : p.tables.exec = Jvm.exec) (hZ : Z.Warmed39 s.vm) (hby : c.code = method_5_code) (hml : c.maxLocals = 15) (hown : s.vm.findClass "com/example/seshat/seshat/jpql/DatabaseNamedPinLaw" = some m.cls) (hh : s.heap = h0) (e0 : s₁.heap = h0) :
    ∃ (w_7 : Int32) (w_8 : Int32) (w_9 : Int32) (w_10 : Int32) (w_11 : Int32) (w_12 : Int32) (w_13 : Int32) (w_14 : Int32) (w_15 : Int32) (w_16 : Int32) (w_17 : Int32) (T : State) (L : List Loc), Stand p l e ({ frames := 6, cells := 3, slots := 40, locals := 120 } : Room) s m #[(.ref a0), (.int p1), (.int p2), (.int p3)] below meth c T L 0 0 ∧ Fr n0 L ∧ T.heap = h0 ∧ own_B w_7 ∧ own_B w_8 ∧ own_B w_9 ∧ own_B w_10 ∧ own_B w_11 ∧ own_B w_12 ∧ own_B w_13 ∧ own_B w_14 ∧ own_B w_15 ∧ own_B w_16 ∧ own_B w_17 ∧ ∀ target, Steps p.tables e below (T.setTop (mkF m 104 #[vR a0, vI p1, vI p2, vI p3, vI w_7, vI w_8, vI w_9, vI w_10, vI w_11, vI w_12, vI w_13, vI w_14, vI w_15, vI w_16, vI w_17] [])) target → Steps p.tables e below (s₁.setTop (mkF m 0 #[vR a0, vI p1, vI p2, vI p3, .unset, .unset, .unset, .unset, .unset, .unset, .unset, .unset, .unset, .unset, .unset] [])) target := by
  have N0 := Fr.nil n0
  obtain ⟨_, _, ⟨T7, L7, k7, n7⟩, -, X7, ⟨Lc7, hQ7, l7, y7, z7⟩, st7⟩ := Jvm.LawKit.callS X0 hx (y := (⟨"com/example/seshat/seshat/jpql/DatabaseNamedPinLaw", "at", "(Ljava/lang/String;IIC)C"⟩ : MethodName)) hown (mvT hZ (hw _ (List.mem_of_getElem? (i := 26) rfl))) (mvT hZ (hw _ (List.mem_of_getElem? (i := 27) rfl))) (mvT hZ (hw _ (List.mem_of_getElem? (i := 24) rfl))) (mvT hZ (hw _ (List.mem_of_getElem? (i := 28) rfl))) (by decide) (backOf (W := 0) (rm4 l Z A0 hw [] cs_a0 w_COMPACT_STRINGS w_SIOOBE_FORMATTER a0 (0 : Int32) p2 p3 h0 n0 OLD f_1 c_2 (by decide : ¬ ((0 : Int32) < (0 : Int32))) f_3 c_4 f_5 c_6) hZ (hw _ (List.mem_of_getElem? (i := 28) rfl)) (hw _ (List.mem_of_getElem? (i := 24) rfl)) (by decide) (by decide)) (g := (mkF m 4 #[vR a0, vI p1, vI p2, vI p3, .unset, .unset, .unset, .unset, .unset, .unset, .unset, .unset, .unset, .unset, .unset] [(.int p3), (.int p2), (.int (0 : Int32)), (.ref a0)])) rfl (by rw [hml]; rfl) (argsL := [(.ref a0), (.int (0 : Int32)), (.int p2), (.int p3)]) (rest := []) (lenOf pd_5 rfl) rfl (by show 2 * 0 + _ ≤ _; exact Nat.le_of_eq rfl) (hb hby d3_4) (fun _ _ => ⟨rfl, e0, (by decide : 0 + 0 ≤ _), (by decide : 0 + 0 ≤ _)⟩)
  dsimp only [Pt.U, Pt.locs, Pt.cells, Pt.slots] at X7 l7 y7 z7 st7 hQ7
  subst l7 y7 z7
  obtain ⟨w_7, rfl, N7q, e7, g7_0⟩ := hQ7
  have N7 := Fr.app N0 N7q
  obtain ⟨_, _, ⟨T8, L8, k8, n8⟩, -, X8, ⟨Lc8, hQ8, l8, y8, z8⟩, st8⟩ := Jvm.LawKit.callS X7 hx (y := (⟨"com/example/seshat/seshat/jpql/DatabaseNamedPinLaw", "at", "(Ljava/lang/String;IIC)C"⟩ : MethodName)) hown (mvT hZ (hw _ (List.mem_of_getElem? (i := 26) rfl))) (mvT hZ (hw _ (List.mem_of_getElem? (i := 27) rfl))) (mvT hZ (hw _ (List.mem_of_getElem? (i := 24) rfl))) (mvT hZ (hw _ (List.mem_of_getElem? (i := 28) rfl))) (by decide) (backOf (W := 0) (rm4 l Z A0 hw [] cs_a0 w_COMPACT_STRINGS w_SIOOBE_FORMATTER a0 (1 : Int32) p2 p3 h0 n0 OLD f_1 c_2 (by decide : ¬ ((1 : Int32) < (0 : Int32))) f_3 c_4 f_5 c_6) hZ (hw _ (List.mem_of_getElem? (i := 28) rfl)) (hw _ (List.mem_of_getElem? (i := 24) rfl)) (by decide) (by decide)) (g := (mkF m 13 #[vR a0, vI p1, vI p2, vI p3, vI w_7, .unset, .unset, .unset, .unset, .unset, .unset, .unset, .unset, .unset, .unset] [(.int p3), (.int p2), (.int (1 : Int32)), (.ref a0)])) rfl (by rw [hml]; rfl) (argsL := [(.ref a0), (.int (1 : Int32)), (.int p2), (.int p3)]) (rest := []) (lenOf pd_5 rfl) rfl (by show 2 * 0 + _ ≤ _; exact Nat.le_of_eq rfl) (hb hby d3_13) (fun _ _ => ⟨rfl, e7, (by decide : 0 + 0 ≤ _), (by decide : 0 + 0 ≤ _)⟩)
  dsimp only [Pt.U, Pt.locs, Pt.cells, Pt.slots] at X8 l8 y8 z8 st8 hQ8
  subst l8 y8 z8
  obtain ⟨w_8, rfl, N8q, e8, g8_0⟩ := hQ8
  have N8 := Fr.app N7 N8q
  obtain ⟨_, _, ⟨T9, L9, k9, n9⟩, -, X9, ⟨Lc9, hQ9, l9, y9, z9⟩, st9⟩ := Jvm.LawKit.callS X8 hx (y := (⟨"com/example/seshat/seshat/jpql/DatabaseNamedPinLaw", "at", "(Ljava/lang/String;IIC)C"⟩ : MethodName)) hown (mvT hZ (hw _ (List.mem_of_getElem? (i := 26) rfl))) (mvT hZ (hw _ (List.mem_of_getElem? (i := 27) rfl))) (mvT hZ (hw _ (List.mem_of_getElem? (i := 24) rfl))) (mvT hZ (hw _ (List.mem_of_getElem? (i := 28) rfl))) (by decide) (backOf (W := 0) (rm4 l Z A0 hw [] cs_a0 w_COMPACT_STRINGS w_SIOOBE_FORMATTER a0 (2 : Int32) p2 p3 h0 n0 OLD f_1 c_2 (by decide : ¬ ((2 : Int32) < (0 : Int32))) f_3 c_4 f_5 c_6) hZ (hw _ (List.mem_of_getElem? (i := 28) rfl)) (hw _ (List.mem_of_getElem? (i := 24) rfl)) (by decide) (by decide)) (g := (mkF m 22 #[vR a0, vI p1, vI p2, vI p3, vI w_7, vI w_8, .unset, .unset, .unset, .unset, .unset, .unset, .unset, .unset, .unset] [(.int p3), (.int p2), (.int (2 : Int32)), (.ref a0)])) rfl (by rw [hml]; rfl) (argsL := [(.ref a0), (.int (2 : Int32)), (.int p2), (.int p3)]) (rest := []) (lenOf pd_5 rfl) rfl (by show 2 * 0 + _ ≤ _; exact Nat.le_of_eq rfl) (hb hby d3_22) (fun _ _ => ⟨rfl, e8, (by decide : 0 + 0 ≤ _), (by decide : 0 + 0 ≤ _)⟩)
  dsimp only [Pt.U, Pt.locs, Pt.cells, Pt.slots] at X9 l9 y9 z9 st9 hQ9
  subst l9 y9 z9
  obtain ⟨w_9, rfl, N9q, e9, g9_0⟩ := hQ9
  have N9 := Fr.app N8 N9q
  obtain ⟨_, _, ⟨T10, L10, k10, n10⟩, -, X10, ⟨Lc10, hQ10, l10, y10, z10⟩, st10⟩ := Jvm.LawKit.callS X9 hx (y := (⟨"com/example/seshat/seshat/jpql/DatabaseNamedPinLaw", "at", "(Ljava/lang/String;IIC)C"⟩ : MethodName)) hown (mvT hZ (hw _ (List.mem_of_getElem? (i := 26) rfl))) (mvT hZ (hw _ (List.mem_of_getElem? (i := 27) rfl))) (mvT hZ (hw _ (List.mem_of_getElem? (i := 24) rfl))) (mvT hZ (hw _ (List.mem_of_getElem? (i := 28) rfl))) (by decide) (backOf (W := 0) (rm4 l Z A0 hw [] cs_a0 w_COMPACT_STRINGS w_SIOOBE_FORMATTER a0 (3 : Int32) p2 p3 h0 n0 OLD f_1 c_2 (by decide : ¬ ((3 : Int32) < (0 : Int32))) f_3 c_4 f_5 c_6) hZ (hw _ (List.mem_of_getElem? (i := 28) rfl)) (hw _ (List.mem_of_getElem? (i := 24) rfl)) (by decide) (by decide)) (g := (mkF m 31 #[vR a0, vI p1, vI p2, vI p3, vI w_7, vI w_8, vI w_9, .unset, .unset, .unset, .unset, .unset, .unset, .unset, .unset] [(.int p3), (.int p2), (.int (3 : Int32)), (.ref a0)])) rfl (by rw [hml]; rfl) (argsL := [(.ref a0), (.int (3 : Int32)), (.int p2), (.int p3)]) (rest := []) (lenOf pd_5 rfl) rfl (by show 2 * 0 + _ ≤ _; exact Nat.le_of_eq rfl) (hb hby d3_31) (fun _ _ => ⟨rfl, e9, (by decide : 0 + 0 ≤ _), (by decide : 0 + 0 ≤ _)⟩)
  dsimp only [Pt.U, Pt.locs, Pt.cells, Pt.slots] at X10 l10 y10 z10 st10 hQ10
  subst l10 y10 z10
  obtain ⟨w_10, rfl, N10q, e10, g10_0⟩ := hQ10
  have N10 := Fr.app N9 N10q
  obtain ⟨_, _, ⟨T11, L11, k11, n11⟩, -, X11, ⟨Lc11, hQ11, l11, y11, z11⟩, st11⟩ := Jvm.LawKit.callS X10 hx (y := (⟨"com/example/seshat/seshat/jpql/DatabaseNamedPinLaw", "at", "(Ljava/lang/String;IIC)C"⟩ : MethodName)) hown (mvT hZ (hw _ (List.mem_of_getElem? (i := 26) rfl))) (mvT hZ (hw _ (List.mem_of_getElem? (i := 27) rfl))) (mvT hZ (hw _ (List.mem_of_getElem? (i := 24) rfl))) (mvT hZ (hw _ (List.mem_of_getElem? (i := 28) rfl))) (by decide) (backOf (W := 0) (rm4 l Z A0 hw [] cs_a0 w_COMPACT_STRINGS w_SIOOBE_FORMATTER a0 (4 : Int32) p2 p3 h0 n0 OLD f_1 c_2 (by decide : ¬ ((4 : Int32) < (0 : Int32))) f_3 c_4 f_5 c_6) hZ (hw _ (List.mem_of_getElem? (i := 28) rfl)) (hw _ (List.mem_of_getElem? (i := 24) rfl)) (by decide) (by decide)) (g := (mkF m 40 #[vR a0, vI p1, vI p2, vI p3, vI w_7, vI w_8, vI w_9, vI w_10, .unset, .unset, .unset, .unset, .unset, .unset, .unset] [(.int p3), (.int p2), (.int (4 : Int32)), (.ref a0)])) rfl (by rw [hml]; rfl) (argsL := [(.ref a0), (.int (4 : Int32)), (.int p2), (.int p3)]) (rest := []) (lenOf pd_5 rfl) rfl (by show 2 * 0 + _ ≤ _; exact Nat.le_of_eq rfl) (hb hby d3_40) (fun _ _ => ⟨rfl, e10, (by decide : 0 + 0 ≤ _), (by decide : 0 + 0 ≤ _)⟩)
  dsimp only [Pt.U, Pt.locs, Pt.cells, Pt.slots] at X11 l11 y11 z11 st11 hQ11
  subst l11 y11 z11
  obtain ⟨w_11, rfl, N11q, e11, g11_0⟩ := hQ11
  have N11 := Fr.app N10 N11q
  obtain ⟨_, _, ⟨T12, L12, k12, n12⟩, -, X12, ⟨Lc12, hQ12, l12, y12, z12⟩, st12⟩ := Jvm.LawKit.callS X11 hx (y := (⟨"com/example/seshat/seshat/jpql/DatabaseNamedPinLaw", "at", "(Ljava/lang/String;IIC)C"⟩ : MethodName)) hown (mvT hZ (hw _ (List.mem_of_getElem? (i := 26) rfl))) (mvT hZ (hw _ (List.mem_of_getElem? (i := 27) rfl))) (mvT hZ (hw _ (List.mem_of_getElem? (i := 24) rfl))) (mvT hZ (hw _ (List.mem_of_getElem? (i := 28) rfl))) (by decide) (backOf (W := 0) (rm4 l Z A0 hw [] cs_a0 w_COMPACT_STRINGS w_SIOOBE_FORMATTER a0 (5 : Int32) p2 p3 h0 n0 OLD f_1 c_2 (by decide : ¬ ((5 : Int32) < (0 : Int32))) f_3 c_4 f_5 c_6) hZ (hw _ (List.mem_of_getElem? (i := 28) rfl)) (hw _ (List.mem_of_getElem? (i := 24) rfl)) (by decide) (by decide)) (g := (mkF m 49 #[vR a0, vI p1, vI p2, vI p3, vI w_7, vI w_8, vI w_9, vI w_10, vI w_11, .unset, .unset, .unset, .unset, .unset, .unset] [(.int p3), (.int p2), (.int (5 : Int32)), (.ref a0)])) rfl (by rw [hml]; rfl) (argsL := [(.ref a0), (.int (5 : Int32)), (.int p2), (.int p3)]) (rest := []) (lenOf pd_5 rfl) rfl (by show 2 * 0 + _ ≤ _; exact Nat.le_of_eq rfl) (hb hby d3_49) (fun _ _ => ⟨rfl, e11, (by decide : 0 + 0 ≤ _), (by decide : 0 + 0 ≤ _)⟩)
  dsimp only [Pt.U, Pt.locs, Pt.cells, Pt.slots] at X12 l12 y12 z12 st12 hQ12
  subst l12 y12 z12
  obtain ⟨w_12, rfl, N12q, e12, g12_0⟩ := hQ12
  have N12 := Fr.app N11 N12q
  obtain ⟨_, _, ⟨T13, L13, k13, n13⟩, -, X13, ⟨Lc13, hQ13, l13, y13, z13⟩, st13⟩ := Jvm.LawKit.callS X12 hx (y := (⟨"com/example/seshat/seshat/jpql/DatabaseNamedPinLaw", "at", "(Ljava/lang/String;IIC)C"⟩ : MethodName)) hown (mvT hZ (hw _ (List.mem_of_getElem? (i := 26) rfl))) (mvT hZ (hw _ (List.mem_of_getElem? (i := 27) rfl))) (mvT hZ (hw _ (List.mem_of_getElem? (i := 24) rfl))) (mvT hZ (hw _ (List.mem_of_getElem? (i := 28) rfl))) (by decide) (backOf (W := 0) (rm4 l Z A0 hw [] cs_a0 w_COMPACT_STRINGS w_SIOOBE_FORMATTER a0 (6 : Int32) p2 p3 h0 n0 OLD f_1 c_2 (by decide : ¬ ((6 : Int32) < (0 : Int32))) f_3 c_4 f_5 c_6) hZ (hw _ (List.mem_of_getElem? (i := 28) rfl)) (hw _ (List.mem_of_getElem? (i := 24) rfl)) (by decide) (by decide)) (g := (mkF m 59 #[vR a0, vI p1, vI p2, vI p3, vI w_7, vI w_8, vI w_9, vI w_10, vI w_11, vI w_12, .unset, .unset, .unset, .unset, .unset] [(.int p3), (.int p2), (.int (6 : Int32)), (.ref a0)])) rfl (by rw [hml]; rfl) (argsL := [(.ref a0), (.int (6 : Int32)), (.int p2), (.int p3)]) (rest := []) (lenOf pd_5 rfl) rfl (by show 2 * 0 + _ ≤ _; exact Nat.le_of_eq rfl) (hb hby d3_59) (fun _ _ => ⟨rfl, e12, (by decide : 0 + 0 ≤ _), (by decide : 0 + 0 ≤ _)⟩)
  dsimp only [Pt.U, Pt.locs, Pt.cells, Pt.slots] at X13 l13 y13 z13 st13 hQ13
  subst l13 y13 z13
  obtain ⟨w_13, rfl, N13q, e13, g13_0⟩ := hQ13
  have N13 := Fr.app N12 N13q
  obtain ⟨_, _, ⟨T14, L14, k14, n14⟩, -, X14, ⟨Lc14, hQ14, l14, y14, z14⟩, st14⟩ := Jvm.LawKit.callS X13 hx (y := (⟨"com/example/seshat/seshat/jpql/DatabaseNamedPinLaw", "at", "(Ljava/lang/String;IIC)C"⟩ : MethodName)) hown (mvT hZ (hw _ (List.mem_of_getElem? (i := 26) rfl))) (mvT hZ (hw _ (List.mem_of_getElem? (i := 27) rfl))) (mvT hZ (hw _ (List.mem_of_getElem? (i := 24) rfl))) (mvT hZ (hw _ (List.mem_of_getElem? (i := 28) rfl))) (by decide) (backOf (W := 0) (rm4 l Z A0 hw [] cs_a0 w_COMPACT_STRINGS w_SIOOBE_FORMATTER a0 (7 : Int32) p2 p3 h0 n0 OLD f_1 c_2 (by decide : ¬ ((7 : Int32) < (0 : Int32))) f_3 c_4 f_5 c_6) hZ (hw _ (List.mem_of_getElem? (i := 28) rfl)) (hw _ (List.mem_of_getElem? (i := 24) rfl)) (by decide) (by decide)) (g := (mkF m 69 #[vR a0, vI p1, vI p2, vI p3, vI w_7, vI w_8, vI w_9, vI w_10, vI w_11, vI w_12, vI w_13, .unset, .unset, .unset, .unset] [(.int p3), (.int p2), (.int (7 : Int32)), (.ref a0)])) rfl (by rw [hml]; rfl) (argsL := [(.ref a0), (.int (7 : Int32)), (.int p2), (.int p3)]) (rest := []) (lenOf pd_5 rfl) rfl (by show 2 * 0 + _ ≤ _; exact Nat.le_of_eq rfl) (hb hby d3_69) (fun _ _ => ⟨rfl, e13, (by decide : 0 + 0 ≤ _), (by decide : 0 + 0 ≤ _)⟩)
  dsimp only [Pt.U, Pt.locs, Pt.cells, Pt.slots] at X14 l14 y14 z14 st14 hQ14
  subst l14 y14 z14
  obtain ⟨w_14, rfl, N14q, e14, g14_0⟩ := hQ14
  have N14 := Fr.app N13 N14q
  obtain ⟨_, _, ⟨T15, L15, k15, n15⟩, -, X15, ⟨Lc15, hQ15, l15, y15, z15⟩, st15⟩ := Jvm.LawKit.callS X14 hx (y := (⟨"com/example/seshat/seshat/jpql/DatabaseNamedPinLaw", "at", "(Ljava/lang/String;IIC)C"⟩ : MethodName)) hown (mvT hZ (hw _ (List.mem_of_getElem? (i := 26) rfl))) (mvT hZ (hw _ (List.mem_of_getElem? (i := 27) rfl))) (mvT hZ (hw _ (List.mem_of_getElem? (i := 24) rfl))) (mvT hZ (hw _ (List.mem_of_getElem? (i := 28) rfl))) (by decide) (backOf (W := 0) (rm4 l Z A0 hw [] cs_a0 w_COMPACT_STRINGS w_SIOOBE_FORMATTER a0 (8 : Int32) p2 p3 h0 n0 OLD f_1 c_2 (by decide : ¬ ((8 : Int32) < (0 : Int32))) f_3 c_4 f_5 c_6) hZ (hw _ (List.mem_of_getElem? (i := 28) rfl)) (hw _ (List.mem_of_getElem? (i := 24) rfl)) (by decide) (by decide)) (g := (mkF m 79 #[vR a0, vI p1, vI p2, vI p3, vI w_7, vI w_8, vI w_9, vI w_10, vI w_11, vI w_12, vI w_13, vI w_14, .unset, .unset, .unset] [(.int p3), (.int p2), (.int (8 : Int32)), (.ref a0)])) rfl (by rw [hml]; rfl) (argsL := [(.ref a0), (.int (8 : Int32)), (.int p2), (.int p3)]) (rest := []) (lenOf pd_5 rfl) rfl (by show 2 * 0 + _ ≤ _; exact Nat.le_of_eq rfl) (hb hby d3_79) (fun _ _ => ⟨rfl, e14, (by decide : 0 + 0 ≤ _), (by decide : 0 + 0 ≤ _)⟩)
  dsimp only [Pt.U, Pt.locs, Pt.cells, Pt.slots] at X15 l15 y15 z15 st15 hQ15
  subst l15 y15 z15
  obtain ⟨w_15, rfl, N15q, e15, g15_0⟩ := hQ15
  have N15 := Fr.app N14 N15q
  obtain ⟨_, _, ⟨T16, L16, k16, n16⟩, -, X16, ⟨Lc16, hQ16, l16, y16, z16⟩, st16⟩ := Jvm.LawKit.callS X15 hx (y := (⟨"com/example/seshat/seshat/jpql/DatabaseNamedPinLaw", "at", "(Ljava/lang/String;IIC)C"⟩ : MethodName)) hown (mvT hZ (hw _ (List.mem_of_getElem? (i := 26) rfl))) (mvT hZ (hw _ (List.mem_of_getElem? (i := 27) rfl))) (mvT hZ (hw _ (List.mem_of_getElem? (i := 24) rfl))) (mvT hZ (hw _ (List.mem_of_getElem? (i := 28) rfl))) (by decide) (backOf (W := 0) (rm4 l Z A0 hw [] cs_a0 w_COMPACT_STRINGS w_SIOOBE_FORMATTER a0 (9 : Int32) p2 p3 h0 n0 OLD f_1 c_2 (by decide : ¬ ((9 : Int32) < (0 : Int32))) f_3 c_4 f_5 c_6) hZ (hw _ (List.mem_of_getElem? (i := 28) rfl)) (hw _ (List.mem_of_getElem? (i := 24) rfl)) (by decide) (by decide)) (g := (mkF m 89 #[vR a0, vI p1, vI p2, vI p3, vI w_7, vI w_8, vI w_9, vI w_10, vI w_11, vI w_12, vI w_13, vI w_14, vI w_15, .unset, .unset] [(.int p3), (.int p2), (.int (9 : Int32)), (.ref a0)])) rfl (by rw [hml]; rfl) (argsL := [(.ref a0), (.int (9 : Int32)), (.int p2), (.int p3)]) (rest := []) (lenOf pd_5 rfl) rfl (by show 2 * 0 + _ ≤ _; exact Nat.le_of_eq rfl) (hb hby d3_89) (fun _ _ => ⟨rfl, e15, (by decide : 0 + 0 ≤ _), (by decide : 0 + 0 ≤ _)⟩)
  dsimp only [Pt.U, Pt.locs, Pt.cells, Pt.slots] at X16 l16 y16 z16 st16 hQ16
  subst l16 y16 z16
  obtain ⟨w_16, rfl, N16q, e16, g16_0⟩ := hQ16
  have N16 := Fr.app N15 N16q
  obtain ⟨_, _, ⟨T17, L17, k17, n17⟩, -, X17, ⟨Lc17, hQ17, l17, y17, z17⟩, st17⟩ := Jvm.LawKit.callS X16 hx (y := (⟨"com/example/seshat/seshat/jpql/DatabaseNamedPinLaw", "at", "(Ljava/lang/String;IIC)C"⟩ : MethodName)) hown (mvT hZ (hw _ (List.mem_of_getElem? (i := 26) rfl))) (mvT hZ (hw _ (List.mem_of_getElem? (i := 27) rfl))) (mvT hZ (hw _ (List.mem_of_getElem? (i := 24) rfl))) (mvT hZ (hw _ (List.mem_of_getElem? (i := 28) rfl))) (by decide) (backOf (W := 0) (rm4 l Z A0 hw [] cs_a0 w_COMPACT_STRINGS w_SIOOBE_FORMATTER a0 (10 : Int32) p2 p3 h0 n0 OLD f_1 c_2 (by decide : ¬ ((10 : Int32) < (0 : Int32))) f_3 c_4 f_5 c_6) hZ (hw _ (List.mem_of_getElem? (i := 28) rfl)) (hw _ (List.mem_of_getElem? (i := 24) rfl)) (by decide) (by decide)) (g := (mkF m 99 #[vR a0, vI p1, vI p2, vI p3, vI w_7, vI w_8, vI w_9, vI w_10, vI w_11, vI w_12, vI w_13, vI w_14, vI w_15, vI w_16, .unset] [(.int p3), (.int p2), (.int (10 : Int32)), (.ref a0)])) rfl (by rw [hml]; rfl) (argsL := [(.ref a0), (.int (10 : Int32)), (.int p2), (.int p3)]) (rest := []) (lenOf pd_5 rfl) rfl (by show 2 * 0 + _ ≤ _; exact Nat.le_of_eq rfl) (hb hby d3_99) (fun _ _ => ⟨rfl, e16, (by decide : 0 + 0 ≤ _), (by decide : 0 + 0 ≤ _)⟩)
  dsimp only [Pt.U, Pt.locs, Pt.cells, Pt.slots] at X17 l17 y17 z17 st17 hQ17
  subst l17 y17 z17
  obtain ⟨w_17, rfl, N17q, e17, g17_0⟩ := hQ17
  have N17 := Fr.app N16 N17q
  refine ⟨w_7, w_8, w_9, w_10, w_11, w_12, w_13, w_14, w_15, w_16, w_17, T17, _, X17, N17, e17, g7_0, g8_0, g9_0, g10_0, g11_0, g12_0, g13_0, g14_0, g15_0, g16_0, g17_0, fun target kt => ?_⟩
  show Steps p.tables e below (s₁.setTop (mkF m 0 #[vR a0, vI p1, vI p2, vI p3, .unset, .unset, .unset, .unset, .unset, .unset, .unset, .unset, .unset, .unset, .unset] [])) _
  refine XS.aloadN X0.here hx rfl (hb hby d3_0) rfl rfl ?_
  refine XS.iconst X0.here hx rfl (hb hby d3_1) ?_
  show Steps p.tables e below (s₁.setTop (mkF m 2 #[vR a0, vI p1, vI p2, vI p3, .unset, .unset, .unset, .unset, .unset, .unset, .unset, .unset, .unset, .unset, .unset] [(.int (0 : Int32)), (.ref a0)])) _
  refine XS.iloadN X0.here hx rfl (hb hby d3_2) rfl ?_
  refine XS.iloadN X0.here hx rfl (hb hby d3_3) rfl ?_
  show Steps p.tables e below (s₁.setTop (mkF m 4 #[vR a0, vI p1, vI p2, vI p3, .unset, .unset, .unset, .unset, .unset, .unset, .unset, .unset, .unset, .unset, .unset] [(.int p3), (.int p2), (.int (0 : Int32)), (.ref a0)])) _
  refine st7 _ ?_
  refine XS.istore X7.here hx rfl (hb hby d3_7) rfl (l' := #[vR a0, vI p1, vI p2, vI p3, vI w_7, .unset, .unset, .unset, .unset, .unset, .unset, .unset, .unset, .unset, .unset]) rfl ?_
  show Steps p.tables e below (T7.setTop (mkF m 9 #[vR a0, vI p1, vI p2, vI p3, vI w_7, .unset, .unset, .unset, .unset, .unset, .unset, .unset, .unset, .unset, .unset] [])) _
  refine XS.aloadN X7.here hx rfl (hb hby d3_9) rfl rfl ?_
  refine XS.iconst X7.here hx rfl (hb hby d3_10) ?_
  show Steps p.tables e below (T7.setTop (mkF m 11 #[vR a0, vI p1, vI p2, vI p3, vI w_7, .unset, .unset, .unset, .unset, .unset, .unset, .unset, .unset, .unset, .unset] [(.int (1 : Int32)), (.ref a0)])) _
  refine XS.iloadN X7.here hx rfl (hb hby d3_11) rfl ?_
  refine XS.iloadN X7.here hx rfl (hb hby d3_12) rfl ?_
  show Steps p.tables e below (T7.setTop (mkF m 13 #[vR a0, vI p1, vI p2, vI p3, vI w_7, .unset, .unset, .unset, .unset, .unset, .unset, .unset, .unset, .unset, .unset] [(.int p3), (.int p2), (.int (1 : Int32)), (.ref a0)])) _
  refine st8 _ ?_
  refine XS.istore X8.here hx rfl (hb hby d3_16) rfl (l' := #[vR a0, vI p1, vI p2, vI p3, vI w_7, vI w_8, .unset, .unset, .unset, .unset, .unset, .unset, .unset, .unset, .unset]) rfl ?_
  show Steps p.tables e below (T8.setTop (mkF m 18 #[vR a0, vI p1, vI p2, vI p3, vI w_7, vI w_8, .unset, .unset, .unset, .unset, .unset, .unset, .unset, .unset, .unset] [])) _
  refine XS.aloadN X8.here hx rfl (hb hby d3_18) rfl rfl ?_
  refine XS.iconst X8.here hx rfl (hb hby d3_19) ?_
  show Steps p.tables e below (T8.setTop (mkF m 20 #[vR a0, vI p1, vI p2, vI p3, vI w_7, vI w_8, .unset, .unset, .unset, .unset, .unset, .unset, .unset, .unset, .unset] [(.int (2 : Int32)), (.ref a0)])) _
  refine XS.iloadN X8.here hx rfl (hb hby d3_20) rfl ?_
  refine XS.iloadN X8.here hx rfl (hb hby d3_21) rfl ?_
  show Steps p.tables e below (T8.setTop (mkF m 22 #[vR a0, vI p1, vI p2, vI p3, vI w_7, vI w_8, .unset, .unset, .unset, .unset, .unset, .unset, .unset, .unset, .unset] [(.int p3), (.int p2), (.int (2 : Int32)), (.ref a0)])) _
  refine st9 _ ?_
  refine XS.istore X9.here hx rfl (hb hby d3_25) rfl (l' := #[vR a0, vI p1, vI p2, vI p3, vI w_7, vI w_8, vI w_9, .unset, .unset, .unset, .unset, .unset, .unset, .unset, .unset]) rfl ?_
  show Steps p.tables e below (T9.setTop (mkF m 27 #[vR a0, vI p1, vI p2, vI p3, vI w_7, vI w_8, vI w_9, .unset, .unset, .unset, .unset, .unset, .unset, .unset, .unset] [])) _
  refine XS.aloadN X9.here hx rfl (hb hby d3_27) rfl rfl ?_
  refine XS.iconst X9.here hx rfl (hb hby d3_28) ?_
  show Steps p.tables e below (T9.setTop (mkF m 29 #[vR a0, vI p1, vI p2, vI p3, vI w_7, vI w_8, vI w_9, .unset, .unset, .unset, .unset, .unset, .unset, .unset, .unset] [(.int (3 : Int32)), (.ref a0)])) _
  refine XS.iloadN X9.here hx rfl (hb hby d3_29) rfl ?_
  refine XS.iloadN X9.here hx rfl (hb hby d3_30) rfl ?_
  show Steps p.tables e below (T9.setTop (mkF m 31 #[vR a0, vI p1, vI p2, vI p3, vI w_7, vI w_8, vI w_9, .unset, .unset, .unset, .unset, .unset, .unset, .unset, .unset] [(.int p3), (.int p2), (.int (3 : Int32)), (.ref a0)])) _
  refine st10 _ ?_
  refine XS.istore X10.here hx rfl (hb hby d3_34) rfl (l' := #[vR a0, vI p1, vI p2, vI p3, vI w_7, vI w_8, vI w_9, vI w_10, .unset, .unset, .unset, .unset, .unset, .unset, .unset]) rfl ?_
  show Steps p.tables e below (T10.setTop (mkF m 36 #[vR a0, vI p1, vI p2, vI p3, vI w_7, vI w_8, vI w_9, vI w_10, .unset, .unset, .unset, .unset, .unset, .unset, .unset] [])) _
  refine XS.aloadN X10.here hx rfl (hb hby d3_36) rfl rfl ?_
  refine XS.iconst X10.here hx rfl (hb hby d3_37) ?_
  show Steps p.tables e below (T10.setTop (mkF m 38 #[vR a0, vI p1, vI p2, vI p3, vI w_7, vI w_8, vI w_9, vI w_10, .unset, .unset, .unset, .unset, .unset, .unset, .unset] [(.int (4 : Int32)), (.ref a0)])) _
  refine XS.iloadN X10.here hx rfl (hb hby d3_38) rfl ?_
  refine XS.iloadN X10.here hx rfl (hb hby d3_39) rfl ?_
  show Steps p.tables e below (T10.setTop (mkF m 40 #[vR a0, vI p1, vI p2, vI p3, vI w_7, vI w_8, vI w_9, vI w_10, .unset, .unset, .unset, .unset, .unset, .unset, .unset] [(.int p3), (.int p2), (.int (4 : Int32)), (.ref a0)])) _
  refine st11 _ ?_
  refine XS.istore X11.here hx rfl (hb hby d3_43) rfl (l' := #[vR a0, vI p1, vI p2, vI p3, vI w_7, vI w_8, vI w_9, vI w_10, vI w_11, .unset, .unset, .unset, .unset, .unset, .unset]) rfl ?_
  show Steps p.tables e below (T11.setTop (mkF m 45 #[vR a0, vI p1, vI p2, vI p3, vI w_7, vI w_8, vI w_9, vI w_10, vI w_11, .unset, .unset, .unset, .unset, .unset, .unset] [])) _
  refine XS.aloadN X11.here hx rfl (hb hby d3_45) rfl rfl ?_
  refine XS.iconst X11.here hx rfl (hb hby d3_46) ?_
  show Steps p.tables e below (T11.setTop (mkF m 47 #[vR a0, vI p1, vI p2, vI p3, vI w_7, vI w_8, vI w_9, vI w_10, vI w_11, .unset, .unset, .unset, .unset, .unset, .unset] [(.int (5 : Int32)), (.ref a0)])) _
  refine XS.iloadN X11.here hx rfl (hb hby d3_47) rfl ?_
  refine XS.iloadN X11.here hx rfl (hb hby d3_48) rfl ?_
  show Steps p.tables e below (T11.setTop (mkF m 49 #[vR a0, vI p1, vI p2, vI p3, vI w_7, vI w_8, vI w_9, vI w_10, vI w_11, .unset, .unset, .unset, .unset, .unset, .unset] [(.int p3), (.int p2), (.int (5 : Int32)), (.ref a0)])) _
  refine st12 _ ?_
  refine XS.istore X12.here hx rfl (hb hby d3_52) rfl (l' := #[vR a0, vI p1, vI p2, vI p3, vI w_7, vI w_8, vI w_9, vI w_10, vI w_11, vI w_12, .unset, .unset, .unset, .unset, .unset]) rfl ?_
  show Steps p.tables e below (T12.setTop (mkF m 54 #[vR a0, vI p1, vI p2, vI p3, vI w_7, vI w_8, vI w_9, vI w_10, vI w_11, vI w_12, .unset, .unset, .unset, .unset, .unset] [])) _
  refine XS.aloadN X12.here hx rfl (hb hby d3_54) rfl rfl ?_
  refine XS.bipush X12.here hx rfl (hb hby d3_55) ?_
  show Steps p.tables e below (T12.setTop (mkF m 57 #[vR a0, vI p1, vI p2, vI p3, vI w_7, vI w_8, vI w_9, vI w_10, vI w_11, vI w_12, .unset, .unset, .unset, .unset, .unset] [(.int (6 : Int32)), (.ref a0)])) _
  refine XS.iloadN X12.here hx rfl (hb hby d3_57) rfl ?_
  refine XS.iloadN X12.here hx rfl (hb hby d3_58) rfl ?_
  show Steps p.tables e below (T12.setTop (mkF m 59 #[vR a0, vI p1, vI p2, vI p3, vI w_7, vI w_8, vI w_9, vI w_10, vI w_11, vI w_12, .unset, .unset, .unset, .unset, .unset] [(.int p3), (.int p2), (.int (6 : Int32)), (.ref a0)])) _
  refine st13 _ ?_
  refine XS.istore X13.here hx rfl (hb hby d3_62) rfl (l' := #[vR a0, vI p1, vI p2, vI p3, vI w_7, vI w_8, vI w_9, vI w_10, vI w_11, vI w_12, vI w_13, .unset, .unset, .unset, .unset]) rfl ?_
  show Steps p.tables e below (T13.setTop (mkF m 64 #[vR a0, vI p1, vI p2, vI p3, vI w_7, vI w_8, vI w_9, vI w_10, vI w_11, vI w_12, vI w_13, .unset, .unset, .unset, .unset] [])) _
  refine XS.aloadN X13.here hx rfl (hb hby d3_64) rfl rfl ?_
  refine XS.bipush X13.here hx rfl (hb hby d3_65) ?_
  show Steps p.tables e below (T13.setTop (mkF m 67 #[vR a0, vI p1, vI p2, vI p3, vI w_7, vI w_8, vI w_9, vI w_10, vI w_11, vI w_12, vI w_13, .unset, .unset, .unset, .unset] [(.int (7 : Int32)), (.ref a0)])) _
  refine XS.iloadN X13.here hx rfl (hb hby d3_67) rfl ?_
  refine XS.iloadN X13.here hx rfl (hb hby d3_68) rfl ?_
  show Steps p.tables e below (T13.setTop (mkF m 69 #[vR a0, vI p1, vI p2, vI p3, vI w_7, vI w_8, vI w_9, vI w_10, vI w_11, vI w_12, vI w_13, .unset, .unset, .unset, .unset] [(.int p3), (.int p2), (.int (7 : Int32)), (.ref a0)])) _
  refine st14 _ ?_
  refine XS.istore X14.here hx rfl (hb hby d3_72) rfl (l' := #[vR a0, vI p1, vI p2, vI p3, vI w_7, vI w_8, vI w_9, vI w_10, vI w_11, vI w_12, vI w_13, vI w_14, .unset, .unset, .unset]) rfl ?_
  show Steps p.tables e below (T14.setTop (mkF m 74 #[vR a0, vI p1, vI p2, vI p3, vI w_7, vI w_8, vI w_9, vI w_10, vI w_11, vI w_12, vI w_13, vI w_14, .unset, .unset, .unset] [])) _
  refine XS.aloadN X14.here hx rfl (hb hby d3_74) rfl rfl ?_
  refine XS.bipush X14.here hx rfl (hb hby d3_75) ?_
  show Steps p.tables e below (T14.setTop (mkF m 77 #[vR a0, vI p1, vI p2, vI p3, vI w_7, vI w_8, vI w_9, vI w_10, vI w_11, vI w_12, vI w_13, vI w_14, .unset, .unset, .unset] [(.int (8 : Int32)), (.ref a0)])) _
  refine XS.iloadN X14.here hx rfl (hb hby d3_77) rfl ?_
  refine XS.iloadN X14.here hx rfl (hb hby d3_78) rfl ?_
  show Steps p.tables e below (T14.setTop (mkF m 79 #[vR a0, vI p1, vI p2, vI p3, vI w_7, vI w_8, vI w_9, vI w_10, vI w_11, vI w_12, vI w_13, vI w_14, .unset, .unset, .unset] [(.int p3), (.int p2), (.int (8 : Int32)), (.ref a0)])) _
  refine st15 _ ?_
  refine XS.istore X15.here hx rfl (hb hby d3_82) rfl (l' := #[vR a0, vI p1, vI p2, vI p3, vI w_7, vI w_8, vI w_9, vI w_10, vI w_11, vI w_12, vI w_13, vI w_14, vI w_15, .unset, .unset]) rfl ?_
  show Steps p.tables e below (T15.setTop (mkF m 84 #[vR a0, vI p1, vI p2, vI p3, vI w_7, vI w_8, vI w_9, vI w_10, vI w_11, vI w_12, vI w_13, vI w_14, vI w_15, .unset, .unset] [])) _
  refine XS.aloadN X15.here hx rfl (hb hby d3_84) rfl rfl ?_
  refine XS.bipush X15.here hx rfl (hb hby d3_85) ?_
  show Steps p.tables e below (T15.setTop (mkF m 87 #[vR a0, vI p1, vI p2, vI p3, vI w_7, vI w_8, vI w_9, vI w_10, vI w_11, vI w_12, vI w_13, vI w_14, vI w_15, .unset, .unset] [(.int (9 : Int32)), (.ref a0)])) _
  refine XS.iloadN X15.here hx rfl (hb hby d3_87) rfl ?_
  refine XS.iloadN X15.here hx rfl (hb hby d3_88) rfl ?_
  show Steps p.tables e below (T15.setTop (mkF m 89 #[vR a0, vI p1, vI p2, vI p3, vI w_7, vI w_8, vI w_9, vI w_10, vI w_11, vI w_12, vI w_13, vI w_14, vI w_15, .unset, .unset] [(.int p3), (.int p2), (.int (9 : Int32)), (.ref a0)])) _
  refine st16 _ ?_
  refine XS.istore X16.here hx rfl (hb hby d3_92) rfl (l' := #[vR a0, vI p1, vI p2, vI p3, vI w_7, vI w_8, vI w_9, vI w_10, vI w_11, vI w_12, vI w_13, vI w_14, vI w_15, vI w_16, .unset]) rfl ?_
  show Steps p.tables e below (T16.setTop (mkF m 94 #[vR a0, vI p1, vI p2, vI p3, vI w_7, vI w_8, vI w_9, vI w_10, vI w_11, vI w_12, vI w_13, vI w_14, vI w_15, vI w_16, .unset] [])) _
  refine XS.aloadN X16.here hx rfl (hb hby d3_94) rfl rfl ?_
  refine XS.bipush X16.here hx rfl (hb hby d3_95) ?_
  show Steps p.tables e below (T16.setTop (mkF m 97 #[vR a0, vI p1, vI p2, vI p3, vI w_7, vI w_8, vI w_9, vI w_10, vI w_11, vI w_12, vI w_13, vI w_14, vI w_15, vI w_16, .unset] [(.int (10 : Int32)), (.ref a0)])) _
  refine XS.iloadN X16.here hx rfl (hb hby d3_97) rfl ?_
  refine XS.iloadN X16.here hx rfl (hb hby d3_98) rfl ?_
  show Steps p.tables e below (T16.setTop (mkF m 99 #[vR a0, vI p1, vI p2, vI p3, vI w_7, vI w_8, vI w_9, vI w_10, vI w_11, vI w_12, vI w_13, vI w_14, vI w_15, vI w_16, .unset] [(.int p3), (.int p2), (.int (10 : Int32)), (.ref a0)])) _
  refine st17 _ ?_
  refine XS.istore X17.here hx rfl (hb hby d3_102) rfl (l' := #[vR a0, vI p1, vI p2, vI p3, vI w_7, vI w_8, vI w_9, vI w_10, vI w_11, vI w_12, vI w_13, vI w_14, vI w_15, vI w_16, vI w_17]) rfl ?_
  exact kt
theorem pd_6 : parseMethodDescriptor "(C)Ljava/lang/String;" = some ⟨[.char], some (.object "java/lang/String")⟩ := by decide +kernel
theorem d3_104 : decode method_5_code 104 = .ok (.iload_n 1, 1) := by decide +kernel
theorem d3_105 : decode method_5_code 105 = .ok (.iconst 1, 1) := by decide +kernel
theorem d3_106 : decode method_5_code 106 = .ok (.if_icmp .ne 9, 3) := by decide +kernel
theorem d3_109 : decode method_5_code 109 = .ok (.iload 4, 2) := by decide +kernel
theorem d3_111 : decode method_5_code 111 = .ok (.invokestatic 13, 3) := by decide +kernel
theorem d3_114 : decode method_5_code 114 = .ok (.areturn, 1) := by decide +kernel
theorem ef_3 (m : MethodId) (x0 : Addr) (x1 : Int32) (x2 : Int32) (x3 : Int32) : entryFrame m #[(.ref x0), (.int x1), (.int x2), (.int x3)] 15 = mkF m 0 #[vR x0, vI x1, vI x2, vI x3, .unset, .unset, .unset, .unset, .unset, .unset, .unset, .unset, .unset, .unset, .unset] [] := by first | (simp [entryFrame, mkF, argsToLocals, Value.category]; done) | rfl
def Q3n1 (Z : State) (cs_a0 : List Int32) (w_COMPACT_STRINGS : Int32) (w_SIOOBE_FORMATTER : Value) (a0 : Addr) (p2 : Int32) (p3 : Int32) (h0 : Heap) (n0 : Nat) (v : Option Value) (h : Heap) (L : List Loc) : Prop := ∃ b6_8 : Addr, ∃ cs_out : List Int32, v = some (.ref b6_8) ∧ Fr n0 L ∧ Keep h0 h [] ∧ h0.size ≤ b6_8 ∧ own_Txt Z h b6_8 cs_out
set_option maxRecDepth 65536 in
set_option maxHeartbeats 40000000 in
theorem rm3n1 (l : Launch) (Z : State) (A0 : Array Value) (hw : ∀ d ∈ tables_1, d.before A0 Z = true) (ws : List Jvm.Cond) (cs_a0 : List Int32) (w_COMPACT_STRINGS : Int32) (w_SIOOBE_FORMATTER : Value) (a0 : Addr) (p2 : Int32) (p3 : Int32) (h0 : Heap) (n0 : Nat) (OLD : Old Z n0 h0) (f_1 : own_Txt Z h0 a0 cs_a0) (c_2 : own_B p3) (f_3 : Sta Z Z.heap "java/lang/String" "COMPACT_STRINGS" "Z" (.int w_COMPACT_STRINGS)) (c_4 : ¬ (w_COMPACT_STRINGS = (0 : Int32))) (f_5 : Sta Z Z.heap "jdk/internal/util/Preconditions" "SIOOBE_FORMATTER" "Ljava/util/function/BiFunction;" w_SIOOBE_FORMATTER) (c_6 : w_SIOOBE_FORMATTER.isRef = true) :
    MetFree l (⟨"com/example/seshat/seshat/jpql/DatabaseNamedPinLaw", "word", "(Ljava/lang/String;IIC)Ljava/lang/String;"⟩ : MethodName) (head1 (Jvm.Cond.code (⟨"com/example/seshat/seshat/jpql/DatabaseNamedPinLaw", "word", "(Ljava/lang/String;IIC)Ljava/lang/String;"⟩ : MethodName) method_5_code 15 (some (.object "java/lang/String")) :: ws) ({ frames := 6, cells := 3, slots := 40, locals := 120 } : Room)) (fun a U => a = #[(.ref a0), (.int (1 : Int32)), (.int p2), (.int p3)] ∧ Z.Warmed39 U.vm ∧ U.heap = h0) (fun _ _ _ _ _ => True) (fun _ U o U' => ∃ v L, o = .returned v ∧ Q3n1 Z cs_a0 w_COMPACT_STRINGS w_SIOOBE_FORMATTER a0 p2 p3 h0 n0 v U'.heap L ∧ FrameEnd U o U' L ({ frames := 6, cells := 3, slots := 40, locals := 120 } : Room).cells ({ frames := 6, cells := 3, slots := 40, locals := 120 } : Room).slots) := by
  refine MetFree.of_bodySF (plainFor_of_name pn_com_example_seshat_seshat_jpql_DatabaseNamedPinLaw) hisR ?_
  intro p e s m args below meth c s₁ Bd hml0 hP hK
  obtain ⟨rfl, hZ, hh⟩ := hP
  have hx := Bd.exec
  have hby := Bd.bytes
  have hml : c.maxLocals = 15 := hml0
  have hown : s.vm.findClass "com/example/seshat/seshat/jpql/DatabaseNamedPinLaw" = some m.cls := findClass_of_methodNamed Bd.named
  have hnm := (name_of_methodNamed Bd.named Bd.method).1
  have X0 : Stand p l e ({ frames := 6, cells := 3, slots := 40, locals := 120 } : Room) s m #[(.ref a0), (.int (1 : Int32)), (.int p2), (.int p3)] below meth c s₁ [] 0 0 := Stand.of_body Bd
  have e0 : s₁.heap = h0 := by rw [← hh, Bd.state]; rfl
  have N0 := Fr.nil n0
  have pre0 : ∀ t, Steps p.tables e below (s₁.setTop (mkF m 0 #[vR a0, vI (1 : Int32), vI p2, vI p3, .unset, .unset, .unset, .unset, .unset, .unset, .unset, .unset, .unset, .unset, .unset] [])) t → Steps p.tables e below (s₁.setTop (entryFrame m #[(.ref a0), (.int (1 : Int32)), (.int p2), (.int p3)] 15)) t := fun t k => castTop (ef_3 m a0 (1 : Int32) p2 p3) k
  obtain ⟨w_7_7, w_8_7, w_9_7, w_10_7, w_11_7, w_12_7, w_13_7, w_14_7, w_15_7, w_16_7, w_17_7, T7, L7, X7, N7, e7, g7_0, g7_1, g7_2, g7_3, g7_4, g7_5, g7_6, g7_7, g7_8, g7_9, g7_10, st7⟩ := rm3s l Z A0 hw cs_a0 w_COMPACT_STRINGS w_SIOOBE_FORMATTER a0 (1 : Int32) p2 p3 h0 n0 OLD f_1 c_2 f_3 c_4 f_5 c_6 X0 hx hZ hby hml hown hh e0
  obtain ⟨_, _, ⟨T8, L8, k8, n8⟩, -, X8, ⟨Lc8, hQ8, l8, y8, z8⟩, st8⟩ := Jvm.LawKit.callS X7 hx (y := (⟨"java/lang/String", "valueOf", "(C)Ljava/lang/String;"⟩ : MethodName)) hown (mvT hZ (hw _ (List.mem_of_getElem? (i := 51) rfl))) (mvT hZ (hw _ (List.mem_of_getElem? (i := 52) rfl))) (mvT hZ (hw _ (List.mem_of_getElem? (i := 2) rfl))) (mvT hZ (hw _ (List.mem_of_getElem? (i := 53) rfl))) (by decide) (backOf (W := 0) (rm10 l Z A0 hw [] w_COMPACT_STRINGS w_7_7 h0 n0 OLD c_4 g7_0 f_3) hZ (hw _ (List.mem_of_getElem? (i := 53) rfl)) (hw _ (List.mem_of_getElem? (i := 2) rfl)) (by decide) (by decide)) (g := (mkF m 111 #[vR a0, vI (1 : Int32), vI p2, vI p3, vI w_7_7, vI w_8_7, vI w_9_7, vI w_10_7, vI w_11_7, vI w_12_7, vI w_13_7, vI w_14_7, vI w_15_7, vI w_16_7, vI w_17_7] [(.int w_7_7)])) rfl (by rw [hml]; rfl) (argsL := [(.int w_7_7)]) (rest := []) (lenOf pd_6 rfl) rfl (by show 2 * 0 + _ ≤ _; exact Nat.le_of_eq rfl) (hb hby d3_111) (fun _ _ => ⟨rfl, e7, (by decide : 0 + 2 ≤ _), (by decide : 0 + 5 ≤ _)⟩)
  dsimp only [Pt.U, Pt.locs, Pt.cells, Pt.slots] at X8 l8 y8 z8 st8 hQ8
  subst l8 y8 z8
  obtain ⟨b6_8, rfl, N8q, K8, g8_0, g8_1⟩ := hQ8
  have N8 := Fr.app N7 N8q
  have K_9 : Keep h0 T8.heap [] := Keep.trans (Keep.refl h0 []) K8 all0
  obtain ⟨fs, hr, hrun, hended, hW, hsame⟩ := X8.leave (v := some (.ref b6_8)) (fun h => by rw [Bd.returns] at h; cases h)
  refine ⟨_, _, pre0 _ ?_, hrun, hended, _, _, rfl, ?_, ⟨_, rfl⟩, hW, hsame.mono (by decide) (by decide)⟩
  · show Steps p.tables e below (s₁.setTop (mkF m 0 #[vR a0, vI (1 : Int32), vI p2, vI p3, .unset, .unset, .unset, .unset, .unset, .unset, .unset, .unset, .unset, .unset, .unset] [])) _
    refine st7 _ ?_
    show Steps p.tables e below (T7.setTop (mkF m 104 #[vR a0, vI (1 : Int32), vI p2, vI p3, vI w_7_7, vI w_8_7, vI w_9_7, vI w_10_7, vI w_11_7, vI w_12_7, vI w_13_7, vI w_14_7, vI w_15_7, vI w_16_7, vI w_17_7] [])) _
    refine XS.iloadN X7.here hx rfl (hb hby d3_104) rfl ?_
    refine XS.iconst X7.here hx rfl (hb hby d3_105) ?_
    show Steps p.tables e below (T7.setTop (mkF m 106 #[vR a0, vI (1 : Int32), vI p2, vI p3, vI w_7_7, vI w_8_7, vI w_9_7, vI w_10_7, vI w_11_7, vI w_12_7, vI w_13_7, vI w_14_7, vI w_15_7, vI w_16_7, vI w_17_7] [(.int (1 : Int32)), (.int (1 : Int32))])) _
    refine XS.icmpNo X7.here hx rfl (hb hby d3_106) rfl (teq (by decide : (1 : Int32) = (1 : Int32))).2 ?_
    refine XS.iload X7.here hx rfl (hb hby d3_109) rfl ?_
    show Steps p.tables e below (T7.setTop (mkF m 111 #[vR a0, vI (1 : Int32), vI p2, vI p3, vI w_7_7, vI w_8_7, vI w_9_7, vI w_10_7, vI w_11_7, vI w_12_7, vI w_13_7, vI w_14_7, vI w_15_7, vI w_16_7, vI w_17_7] [(.int w_7_7)])) _
    refine st8 _ ?_
    show Steps p.tables e below (T8.setTop (mkF m 114 #[vR a0, vI (1 : Int32), vI p2, vI p3, vI w_7_7, vI w_8_7, vI w_9_7, vI w_10_7, vI w_11_7, vI w_12_7, vI w_13_7, vI w_14_7, vI w_15_7, vI w_16_7, vI w_17_7] [(.ref b6_8)])) _
    jvm_step X8.here [X8.here.top, hx, (hb hby d3_114), X8.method', Bd.returns, Value.isRef, FieldType.isReference]
    first | (intro acts; rw [hr _ acts rfl rfl rfl]) | rw [hr _ _ rfl rfl rfl]
    exact Steps.refl _
  · show Q3n1 Z cs_a0 w_COMPACT_STRINGS w_SIOOBE_FORMATTER a0 p2 p3 h0 n0 _ T8.heap _
    exact ⟨b6_8, ([w_7_7] : List Int32), rfl, N8, K_9, (Nat.le_trans (Keep.refl h0 []).1 g8_0), g8_1⟩
theorem pd_7 : parseMethodDescriptor "([C)V" = some ⟨[(.array .char)], none⟩ := by decide +kernel
theorem d3_115 : decode method_5_code 115 = .ok (.iload_n 1, 1) := by decide +kernel
theorem d3_116 : decode method_5_code 116 = .ok (.iconst 2, 1) := by decide +kernel
theorem d3_117 : decode method_5_code 117 = .ok (.if_icmp .ne 24, 3) := by decide +kernel
theorem d3_120 : decode method_5_code 120 = .ok (.new 8, 3) := by decide +kernel
theorem d3_123 : decode method_5_code 123 = .ok (.dup, 1) := by decide +kernel
theorem d3_124 : decode method_5_code 124 = .ok (.iconst 2, 1) := by decide +kernel
theorem d3_125 : decode method_5_code 125 = .ok (.newarray .char, 2) := by decide +kernel
theorem d3_127 : decode method_5_code 127 = .ok (.dup, 1) := by decide +kernel
theorem d3_128 : decode method_5_code 128 = .ok (.iconst 0, 1) := by decide +kernel
theorem d3_129 : decode method_5_code 129 = .ok (.iload 4, 2) := by decide +kernel
theorem d3_131 : decode method_5_code 131 = .ok (.castore, 1) := by decide +kernel
theorem d3_132 : decode method_5_code 132 = .ok (.dup, 1) := by decide +kernel
theorem d3_133 : decode method_5_code 133 = .ok (.iconst 1, 1) := by decide +kernel
theorem d3_134 : decode method_5_code 134 = .ok (.iload 5, 2) := by decide +kernel
theorem d3_136 : decode method_5_code 136 = .ok (.castore, 1) := by decide +kernel
theorem d3_137 : decode method_5_code 137 = .ok (.invokespecial 10, 3) := by decide +kernel
theorem d3_140 : decode method_5_code 140 = .ok (.areturn, 1) := by decide +kernel
def Q3n2 (Z : State) (cs_a0 : List Int32) (w_COMPACT_STRINGS : Int32) (w_SIOOBE_FORMATTER : Value) (a0 : Addr) (p2 : Int32) (p3 : Int32) (h0 : Heap) (n0 : Nat) (v : Option Value) (h : Heap) (L : List Loc) : Prop := ∃ b8 : Addr, ∃ cs_out : List Int32, v = some (.ref b8) ∧ Fr n0 L ∧ Keep h0 h [] ∧ h0.size ≤ b8 ∧ own_Txt Z h b8 cs_out
set_option maxRecDepth 65536 in
set_option maxHeartbeats 40000000 in
theorem rm3n2 (l : Launch) (Z : State) (A0 : Array Value) (hw : ∀ d ∈ tables_1, d.before A0 Z = true) (ws : List Jvm.Cond) (cs_a0 : List Int32) (w_COMPACT_STRINGS : Int32) (w_SIOOBE_FORMATTER : Value) (a0 : Addr) (p2 : Int32) (p3 : Int32) (h0 : Heap) (n0 : Nat) (OLD : Old Z n0 h0) (f_1 : own_Txt Z h0 a0 cs_a0) (c_2 : own_B p3) (f_3 : Sta Z Z.heap "java/lang/String" "COMPACT_STRINGS" "Z" (.int w_COMPACT_STRINGS)) (c_4 : ¬ (w_COMPACT_STRINGS = (0 : Int32))) (f_5 : Sta Z Z.heap "jdk/internal/util/Preconditions" "SIOOBE_FORMATTER" "Ljava/util/function/BiFunction;" w_SIOOBE_FORMATTER) (c_6 : w_SIOOBE_FORMATTER.isRef = true) :
    MetFree l (⟨"com/example/seshat/seshat/jpql/DatabaseNamedPinLaw", "word", "(Ljava/lang/String;IIC)Ljava/lang/String;"⟩ : MethodName) (head1 (Jvm.Cond.code (⟨"com/example/seshat/seshat/jpql/DatabaseNamedPinLaw", "word", "(Ljava/lang/String;IIC)Ljava/lang/String;"⟩ : MethodName) method_5_code 15 (some (.object "java/lang/String")) :: ws) ({ frames := 6, cells := 3, slots := 40, locals := 120 } : Room)) (fun a U => a = #[(.ref a0), (.int (2 : Int32)), (.int p2), (.int p3)] ∧ Z.Warmed39 U.vm ∧ U.heap = h0) (fun _ _ _ _ _ => True) (fun _ U o U' => ∃ v L, o = .returned v ∧ Q3n2 Z cs_a0 w_COMPACT_STRINGS w_SIOOBE_FORMATTER a0 p2 p3 h0 n0 v U'.heap L ∧ FrameEnd U o U' L ({ frames := 6, cells := 3, slots := 40, locals := 120 } : Room).cells ({ frames := 6, cells := 3, slots := 40, locals := 120 } : Room).slots) := by
  refine MetFree.of_bodySF (plainFor_of_name pn_com_example_seshat_seshat_jpql_DatabaseNamedPinLaw) hisR ?_
  intro p e s m args below meth c s₁ Bd hml0 hP hK
  obtain ⟨rfl, hZ, hh⟩ := hP
  have hx := Bd.exec
  have hby := Bd.bytes
  have hml : c.maxLocals = 15 := hml0
  have hown : s.vm.findClass "com/example/seshat/seshat/jpql/DatabaseNamedPinLaw" = some m.cls := findClass_of_methodNamed Bd.named
  have hnm := (name_of_methodNamed Bd.named Bd.method).1
  have X0 : Stand p l e ({ frames := 6, cells := 3, slots := 40, locals := 120 } : Room) s m #[(.ref a0), (.int (2 : Int32)), (.int p2), (.int p3)] below meth c s₁ [] 0 0 := Stand.of_body Bd
  have e0 : s₁.heap = h0 := by rw [← hh, Bd.state]; rfl
  have N0 := Fr.nil n0
  have pre0 : ∀ t, Steps p.tables e below (s₁.setTop (mkF m 0 #[vR a0, vI (2 : Int32), vI p2, vI p3, .unset, .unset, .unset, .unset, .unset, .unset, .unset, .unset, .unset, .unset, .unset] [])) t → Steps p.tables e below (s₁.setTop (entryFrame m #[(.ref a0), (.int (2 : Int32)), (.int p2), (.int p3)] 15)) t := fun t k => castTop (ef_3 m a0 (2 : Int32) p2 p3) k
  obtain ⟨w_7_7, w_8_7, w_9_7, w_10_7, w_11_7, w_12_7, w_13_7, w_14_7, w_15_7, w_16_7, w_17_7, T7, L7, X7, N7, e7, g7_0, g7_1, g7_2, g7_3, g7_4, g7_5, g7_6, g7_7, g7_8, g7_9, g7_10, st7⟩ := rm3s l Z A0 hw cs_a0 w_COMPACT_STRINGS w_SIOOBE_FORMATTER a0 (2 : Int32) p2 p3 h0 n0 OLD f_1 c_2 f_3 c_4 f_5 c_6 X0 hx hZ hby hml hown hh e0
  obtain ⟨T8, h8, X8, e8, E8, A8, D8, M8, st8⟩ := newO X7 hx hZ hown (hw _ (List.mem_of_getElem? (i := 106) rfl)) (hw _ (List.mem_of_getElem? (i := 3) rfl)) (hw _ (List.mem_of_getElem? (i := 2) rfl)) e7 (g := (mkF m 120 #[vR a0, vI (2 : Int32), vI p2, vI p3, vI w_7_7, vI w_8_7, vI w_9_7, vI w_10_7, vI w_11_7, vI w_12_7, vI w_13_7, vI w_14_7, vI w_15_7, vI w_16_7, vI w_17_7] [])) rfl (hb hby d3_120) (by decide) (by decide)
  obtain ⟨b8, g8⟩ : ∃ z, z = h0.size := ⟨_, rfl⟩
  rw [← g8] at A8 D8 M8 st8
  have K_9 : Keep h0 h8 [] := (Keep.refl h0 []).ext E8
  have f_10 : Fld Z h8 b8 "java/lang/String" "value" "[B" .null := (D8 (Or.inr (hw _ (List.mem_of_getElem? (i := 5) rfl))) (ty := (.array .byte)) (by decide))
  have f_11 : Fld Z h8 b8 "java/lang/String" "coder" "B" (.int (0 : Int32)) := (D8 (Or.inr (hw _ (List.mem_of_getElem? (i := 6) rfl))) (ty := .byte) (by decide))
  obtain ⟨T12, h12, k12, X12, e12, E12, A12, st12⟩ := newP X8 hx hZ (hw _ (List.mem_of_getElem? (i := 107) rfl)) e8 (g := (mkF m 125 #[vR a0, vI (2 : Int32), vI p2, vI p3, vI w_7_7, vI w_8_7, vI w_9_7, vI w_10_7, vI w_11_7, vI w_12_7, vI w_13_7, vI w_14_7, vI w_15_7, vI w_16_7, vI w_17_7] [(.int (2 : Int32)), (.ref b8), (.ref b8)])) rfl (hb hby d3_125) rfl (by decide) (cap := 2) (by decide) (by decide) (by decide) (by decide)
  obtain ⟨b12, g12⟩ : ∃ z, z = h8.size := ⟨_, rfl⟩
  rw [← g12] at A12 st12
  have K_13 : Keep h0 h12 [] := K_9.ext E12
  have f_14 : Arv Z h12 b12 k12 .char (2 : Int32) [(.int (0 : Int32)), (.int (0 : Int32))] (.int (0 : Int32)) := (Arv.new A12 (by decide)).pad (pad_rep [] (.int (0 : Int32)) 2)
  obtain ⟨cl15, Ar15, q15, s15, n15, hh15, gg15⟩ := id (f_14)
  have hin15 : ¬ ((0 : Int32) < 0 ∨ cl15.slots.size ≤ ((0 : Int32)).toNatClampNeg) := inb_of s15 ⟨by decide, by decide⟩
  obtain ⟨T16, h16, X16, e16, W16, st16⟩ := stC X12 hx hZ e12 Ar15 (j := (0 : Int32)) hin15 (g := (mkF m 131 #[vR a0, vI (2 : Int32), vI p2, vI p3, vI w_7_7, vI w_8_7, vI w_9_7, vI w_10_7, vI w_11_7, vI w_12_7, vI w_13_7, vI w_14_7, vI w_15_7, vI w_16_7, vI w_17_7] [(.int w_7_7), (.int (0 : Int32)), (.ref b12), (.ref b12), (.ref b8), (.ref b8)])) rfl rfl (hb hby d3_131)
  have O_17 := Old.ext OLD E8
  have ge_18 : n0 ≤ b12 := own_ge O_17 (Nat.le_of_eq g12.symm)
  have N16 := Fr.snoc X16 N7 ge_18
  have f_19 : Arv Z h16 b12 k12 .char (2 : Int32) [(.int (nar .char w_7_7)), (.int (0 : Int32))] (.int (0 : Int32)) := Arv.set Ar15 q15 s15 n15 hh15 gg15 (fits_nar_char _) W16 0 rfl (Nat.le_of_ble_eq_true rfl)
  have K_20 : Keep h0 h16 [] := K_13.wr W16 (Or.inr (Nat.le_trans K_9.1 (Nat.le_of_eq g12.symm)))
  obtain ⟨cl21, Ar21, q21, s21, n21, hh21, gg21⟩ := id (f_19)
  have hin21 : ¬ ((1 : Int32) < 0 ∨ cl21.slots.size ≤ ((1 : Int32)).toNatClampNeg) := inb_of s21 ⟨by decide, by decide⟩
  obtain ⟨T22, h22, X22, e22, W22, st22⟩ := stC X16 hx hZ e16 Ar21 (j := (1 : Int32)) hin21 (g := (mkF m 136 #[vR a0, vI (2 : Int32), vI p2, vI p3, vI w_7_7, vI w_8_7, vI w_9_7, vI w_10_7, vI w_11_7, vI w_12_7, vI w_13_7, vI w_14_7, vI w_15_7, vI w_16_7, vI w_17_7] [(.int w_8_7), (.int (1 : Int32)), (.ref b12), (.ref b12), (.ref b8), (.ref b8)])) rfl rfl (hb hby d3_136)
  have N22 := Fr.snoc X22 N16 ge_18
  have f_23 : Arv Z h22 b12 k12 .char (2 : Int32) [(.int (nar .char w_7_7)), (.int (nar .char w_8_7))] (.int (0 : Int32)) := Arv.set Ar21 q21 s21 n21 hh21 gg21 (fits_nar_char _) W22 1 rfl (Nat.le_of_ble_eq_true rfl)
  have K_24 : Keep h0 h22 [] := K_20.wr W22 (Or.inr (Nat.le_trans K_9.1 (Nat.le_of_eq g12.symm)))
  have O_25 := Old.ext O_17 E12
  have O_26 := Old.wr O_25 W16 ge_18
  have O_27 := Old.wr O_26 W22 ge_18
  have ge_28 : n0 ≤ b8 := own_ge OLD (Nat.le_of_eq g8.symm)
  have f_29 := A8.ext E12
  have f_30 := f_29.wr W16
  have f_31 := f_30.wr W22
  have f_32 := f_10.ext E12
  have ne_33 : b8 ≠ b12 := Nat.ne_of_lt (Nat.lt_of_lt_of_le A8.lt (Nat.le_of_eq g12.symm))
  have f_34 := f_32.other W16 (Or.inl ne_33)
  have f_35 := f_34.other W22 (Or.inl ne_33)
  have f_36 := f_11.ext E12
  have f_37 := f_36.other W16 (Or.inl ne_33)
  have f_38 := f_37.other W22 (Or.inl ne_33)
  obtain ⟨_, _, ⟨T39, L39, k39, n39⟩, -, X39, ⟨Lc39, hQ39, l39, y39, z39⟩, st39⟩ := X22.specialBack hx (y := (⟨"java/lang/String", "<init>", "([C)V"⟩ : MethodName)) rfl hown (mvT hZ (hw _ (List.mem_of_getElem? (i := 108) rfl))) (mvT hZ (hw _ (List.mem_of_getElem? (i := 109) rfl))) (mvT hZ (hw _ (List.mem_of_getElem? (i := 110) rfl))) (by decide) (own_newB (W := 1) (n := 2) (cs := ([(nar .char w_7_7), (nar .char w_8_7)] : List Int32)) hZ hw O_27 f_3 c_4 ge_28 f_31 f_35 f_38 f_23 rfl (by decide) (by decide) (own_cS (own_bn g7_0) (own_cS (own_bn g7_1) own_c0)) (by decide) (by decide)) (g := (mkF m 137 #[vR a0, vI (2 : Int32), vI p2, vI p3, vI w_7_7, vI w_8_7, vI w_9_7, vI w_10_7, vI w_11_7, vI w_12_7, vI w_13_7, vI w_14_7, vI w_15_7, vI w_16_7, vI w_17_7] [(.ref b12), (.ref b8), (.ref b8)])) rfl (by rw [hml]; rfl) (Steps.refl _) (a := b8) (argsL := [(.ref b12)]) (rest := [(.ref b8)]) (lenOf pd_7 rfl) rfl (by show 2 * 0 + _ ≤ _; exact Nat.le_of_eq rfl) (hb hby d3_137) (fun _ _ => ⟨rfl, e22, (by decide : 2 + 1 ≤ _), (by decide : 6 + 2 ≤ _)⟩)
  dsimp only [Pt.U, Pt.locs, Pt.cells, Pt.slots] at X39 l39 y39 z39 st39 hQ39
  subst l39 y39 z39
  obtain ⟨rfl, N39q, K39, g39_0⟩ := hQ39
  have N39 := Fr.app N22 N39q
  have K_40 : Keep h0 T39.heap [] := Keep.trans K_24 K39 (allS (Or.inr (Nat.le_trans (Keep.refl h0 []).1 (Nat.le_of_eq g8.symm))) all0)
  have f_41 := f_31.keep K39
  obtain ⟨fs, hr, hrun, hended, hW, hsame⟩ := X39.leave (v := some (.ref b8)) (fun h => by rw [Bd.returns] at h; cases h)
  refine ⟨_, _, pre0 _ ?_, hrun, hended, _, _, rfl, ?_, ⟨_, rfl⟩, hW, hsame.mono (by decide) (by decide)⟩
  · show Steps p.tables e below (s₁.setTop (mkF m 0 #[vR a0, vI (2 : Int32), vI p2, vI p3, .unset, .unset, .unset, .unset, .unset, .unset, .unset, .unset, .unset, .unset, .unset] [])) _
    refine st7 _ ?_
    show Steps p.tables e below (T7.setTop (mkF m 104 #[vR a0, vI (2 : Int32), vI p2, vI p3, vI w_7_7, vI w_8_7, vI w_9_7, vI w_10_7, vI w_11_7, vI w_12_7, vI w_13_7, vI w_14_7, vI w_15_7, vI w_16_7, vI w_17_7] [])) _
    refine XS.iloadN X7.here hx rfl (hb hby d3_104) rfl ?_
    refine XS.iconst X7.here hx rfl (hb hby d3_105) ?_
    show Steps p.tables e below (T7.setTop (mkF m 106 #[vR a0, vI (2 : Int32), vI p2, vI p3, vI w_7_7, vI w_8_7, vI w_9_7, vI w_10_7, vI w_11_7, vI w_12_7, vI w_13_7, vI w_14_7, vI w_15_7, vI w_16_7, vI w_17_7] [(.int (1 : Int32)), (.int (2 : Int32))])) _
    refine XS.icmpYes X7.here hx rfl (pc0 := 106) (pc' := 115) rfl (hb hby d3_106) rfl (feq (by decide : ¬ ((2 : Int32) = (1 : Int32)))).2 (by decide) (by decide) ?_
    refine XS.iloadN X7.here hx rfl (hb hby d3_115) rfl ?_
    show Steps p.tables e below (T7.setTop (mkF m 116 #[vR a0, vI (2 : Int32), vI p2, vI p3, vI w_7_7, vI w_8_7, vI w_9_7, vI w_10_7, vI w_11_7, vI w_12_7, vI w_13_7, vI w_14_7, vI w_15_7, vI w_16_7, vI w_17_7] [(.int (2 : Int32))])) _
    refine XS.iconst X7.here hx rfl (hb hby d3_116) ?_
    refine XS.icmpNo X7.here hx rfl (hb hby d3_117) rfl (teq (by decide : (2 : Int32) = (2 : Int32))).2 ?_
    show Steps p.tables e below (T7.setTop (mkF m 120 #[vR a0, vI (2 : Int32), vI p2, vI p3, vI w_7_7, vI w_8_7, vI w_9_7, vI w_10_7, vI w_11_7, vI w_12_7, vI w_13_7, vI w_14_7, vI w_15_7, vI w_16_7, vI w_17_7] [])) _
    refine st8 _ ?_
    refine XS.dup X8.here hx rfl (hb hby d3_123) rfl rfl ?_
    show Steps p.tables e below (T8.setTop (mkF m 124 #[vR a0, vI (2 : Int32), vI p2, vI p3, vI w_7_7, vI w_8_7, vI w_9_7, vI w_10_7, vI w_11_7, vI w_12_7, vI w_13_7, vI w_14_7, vI w_15_7, vI w_16_7, vI w_17_7] [(.ref b8), (.ref b8)])) _
    refine XS.iconst X8.here hx rfl (hb hby d3_124) ?_
    refine st12 _ ?_
    show Steps p.tables e below (T12.setTop (mkF m 127 #[vR a0, vI (2 : Int32), vI p2, vI p3, vI w_7_7, vI w_8_7, vI w_9_7, vI w_10_7, vI w_11_7, vI w_12_7, vI w_13_7, vI w_14_7, vI w_15_7, vI w_16_7, vI w_17_7] [(.ref b12), (.ref b8), (.ref b8)])) _
    refine XS.dup X12.here hx rfl (hb hby d3_127) rfl rfl ?_
    refine XS.iconst X12.here hx rfl (hb hby d3_128) ?_
    show Steps p.tables e below (T12.setTop (mkF m 129 #[vR a0, vI (2 : Int32), vI p2, vI p3, vI w_7_7, vI w_8_7, vI w_9_7, vI w_10_7, vI w_11_7, vI w_12_7, vI w_13_7, vI w_14_7, vI w_15_7, vI w_16_7, vI w_17_7] [(.int (0 : Int32)), (.ref b12), (.ref b12), (.ref b8), (.ref b8)])) _
    refine XS.iload X12.here hx rfl (hb hby d3_129) rfl ?_
    refine st16 _ ?_
    show Steps p.tables e below (T16.setTop (mkF m 132 #[vR a0, vI (2 : Int32), vI p2, vI p3, vI w_7_7, vI w_8_7, vI w_9_7, vI w_10_7, vI w_11_7, vI w_12_7, vI w_13_7, vI w_14_7, vI w_15_7, vI w_16_7, vI w_17_7] [(.ref b12), (.ref b8), (.ref b8)])) _
    refine XS.dup X16.here hx rfl (hb hby d3_132) rfl rfl ?_
    refine XS.iconst X16.here hx rfl (hb hby d3_133) ?_
    show Steps p.tables e below (T16.setTop (mkF m 134 #[vR a0, vI (2 : Int32), vI p2, vI p3, vI w_7_7, vI w_8_7, vI w_9_7, vI w_10_7, vI w_11_7, vI w_12_7, vI w_13_7, vI w_14_7, vI w_15_7, vI w_16_7, vI w_17_7] [(.int (1 : Int32)), (.ref b12), (.ref b12), (.ref b8), (.ref b8)])) _
    refine XS.iload X16.here hx rfl (hb hby d3_134) rfl ?_
    refine st22 _ ?_
    show Steps p.tables e below (T22.setTop (mkF m 137 #[vR a0, vI (2 : Int32), vI p2, vI p3, vI w_7_7, vI w_8_7, vI w_9_7, vI w_10_7, vI w_11_7, vI w_12_7, vI w_13_7, vI w_14_7, vI w_15_7, vI w_16_7, vI w_17_7] [(.ref b12), (.ref b8), (.ref b8)])) _
    refine st39.trans ?_
    show Steps p.tables e below (T39.setTop (mkF m 140 #[vR a0, vI (2 : Int32), vI p2, vI p3, vI w_7_7, vI w_8_7, vI w_9_7, vI w_10_7, vI w_11_7, vI w_12_7, vI w_13_7, vI w_14_7, vI w_15_7, vI w_16_7, vI w_17_7] [(.ref b8)])) _
    jvm_step X39.here [X39.here.top, hx, (hb hby d3_140), X39.method', Bd.returns, Value.isRef, FieldType.isReference]
    first | (intro acts; rw [hr _ acts rfl rfl rfl]) | rw [hr _ _ rfl rfl rfl]
    exact Steps.refl _
  · show Q3n2 Z cs_a0 w_COMPACT_STRINGS w_SIOOBE_FORMATTER a0 p2 p3 h0 n0 _ T39.heap _
    exact ⟨b8, ([(nar .char w_7_7), (nar .char w_8_7)] : List Int32), rfl, N39, K_40, (Nat.le_trans (Keep.refl h0 []).1 (Nat.le_of_eq g8.symm)), g39_0⟩
theorem d3_141 : decode method_5_code 141 = .ok (.iload_n 1, 1) := by decide +kernel
theorem d3_142 : decode method_5_code 142 = .ok (.iconst 3, 1) := by decide +kernel
theorem d3_143 : decode method_5_code 143 = .ok (.if_icmp .ne 29, 3) := by decide +kernel
theorem d3_146 : decode method_5_code 146 = .ok (.new 8, 3) := by decide +kernel
theorem d3_149 : decode method_5_code 149 = .ok (.dup, 1) := by decide +kernel
theorem d3_150 : decode method_5_code 150 = .ok (.iconst 3, 1) := by decide +kernel
theorem d3_151 : decode method_5_code 151 = .ok (.newarray .char, 2) := by decide +kernel
theorem d3_153 : decode method_5_code 153 = .ok (.dup, 1) := by decide +kernel
theorem d3_154 : decode method_5_code 154 = .ok (.iconst 0, 1) := by decide +kernel
theorem d3_155 : decode method_5_code 155 = .ok (.iload 4, 2) := by decide +kernel
theorem d3_157 : decode method_5_code 157 = .ok (.castore, 1) := by decide +kernel
theorem d3_158 : decode method_5_code 158 = .ok (.dup, 1) := by decide +kernel
theorem d3_159 : decode method_5_code 159 = .ok (.iconst 1, 1) := by decide +kernel
theorem d3_160 : decode method_5_code 160 = .ok (.iload 5, 2) := by decide +kernel
theorem d3_162 : decode method_5_code 162 = .ok (.castore, 1) := by decide +kernel
theorem d3_163 : decode method_5_code 163 = .ok (.dup, 1) := by decide +kernel
theorem d3_164 : decode method_5_code 164 = .ok (.iconst 2, 1) := by decide +kernel
theorem d3_165 : decode method_5_code 165 = .ok (.iload 6, 2) := by decide +kernel
theorem d3_167 : decode method_5_code 167 = .ok (.castore, 1) := by decide +kernel
theorem d3_168 : decode method_5_code 168 = .ok (.invokespecial 10, 3) := by decide +kernel
theorem d3_171 : decode method_5_code 171 = .ok (.areturn, 1) := by decide +kernel
def Q3n3 (Z : State) (cs_a0 : List Int32) (w_COMPACT_STRINGS : Int32) (w_SIOOBE_FORMATTER : Value) (a0 : Addr) (p2 : Int32) (p3 : Int32) (h0 : Heap) (n0 : Nat) (v : Option Value) (h : Heap) (L : List Loc) : Prop := ∃ b8 : Addr, ∃ cs_out : List Int32, v = some (.ref b8) ∧ Fr n0 L ∧ Keep h0 h [] ∧ h0.size ≤ b8 ∧ own_Txt Z h b8 cs_out
set_option maxRecDepth 65536 in
set_option maxHeartbeats 40000000 in
theorem rm3n3 (l : Launch) (Z : State) (A0 : Array Value) (hw : ∀ d ∈ tables_1, d.before A0 Z = true) (ws : List Jvm.Cond) (cs_a0 : List Int32) (w_COMPACT_STRINGS : Int32) (w_SIOOBE_FORMATTER : Value) (a0 : Addr) (p2 : Int32) (p3 : Int32) (h0 : Heap) (n0 : Nat) (OLD : Old Z n0 h0) (f_1 : own_Txt Z h0 a0 cs_a0) (c_2 : own_B p3) (f_3 : Sta Z Z.heap "java/lang/String" "COMPACT_STRINGS" "Z" (.int w_COMPACT_STRINGS)) (c_4 : ¬ (w_COMPACT_STRINGS = (0 : Int32))) (f_5 : Sta Z Z.heap "jdk/internal/util/Preconditions" "SIOOBE_FORMATTER" "Ljava/util/function/BiFunction;" w_SIOOBE_FORMATTER) (c_6 : w_SIOOBE_FORMATTER.isRef = true) :
    MetFree l (⟨"com/example/seshat/seshat/jpql/DatabaseNamedPinLaw", "word", "(Ljava/lang/String;IIC)Ljava/lang/String;"⟩ : MethodName) (head1 (Jvm.Cond.code (⟨"com/example/seshat/seshat/jpql/DatabaseNamedPinLaw", "word", "(Ljava/lang/String;IIC)Ljava/lang/String;"⟩ : MethodName) method_5_code 15 (some (.object "java/lang/String")) :: ws) ({ frames := 6, cells := 3, slots := 40, locals := 120 } : Room)) (fun a U => a = #[(.ref a0), (.int (3 : Int32)), (.int p2), (.int p3)] ∧ Z.Warmed39 U.vm ∧ U.heap = h0) (fun _ _ _ _ _ => True) (fun _ U o U' => ∃ v L, o = .returned v ∧ Q3n3 Z cs_a0 w_COMPACT_STRINGS w_SIOOBE_FORMATTER a0 p2 p3 h0 n0 v U'.heap L ∧ FrameEnd U o U' L ({ frames := 6, cells := 3, slots := 40, locals := 120 } : Room).cells ({ frames := 6, cells := 3, slots := 40, locals := 120 } : Room).slots) := by
  refine MetFree.of_bodySF (plainFor_of_name pn_com_example_seshat_seshat_jpql_DatabaseNamedPinLaw) hisR ?_
  intro p e s m args below meth c s₁ Bd hml0 hP hK
  obtain ⟨rfl, hZ, hh⟩ := hP
  have hx := Bd.exec
  have hby := Bd.bytes
  have hml : c.maxLocals = 15 := hml0
  have hown : s.vm.findClass "com/example/seshat/seshat/jpql/DatabaseNamedPinLaw" = some m.cls := findClass_of_methodNamed Bd.named
  have hnm := (name_of_methodNamed Bd.named Bd.method).1
  have X0 : Stand p l e ({ frames := 6, cells := 3, slots := 40, locals := 120 } : Room) s m #[(.ref a0), (.int (3 : Int32)), (.int p2), (.int p3)] below meth c s₁ [] 0 0 := Stand.of_body Bd
  have e0 : s₁.heap = h0 := by rw [← hh, Bd.state]; rfl
  have N0 := Fr.nil n0
  have pre0 : ∀ t, Steps p.tables e below (s₁.setTop (mkF m 0 #[vR a0, vI (3 : Int32), vI p2, vI p3, .unset, .unset, .unset, .unset, .unset, .unset, .unset, .unset, .unset, .unset, .unset] [])) t → Steps p.tables e below (s₁.setTop (entryFrame m #[(.ref a0), (.int (3 : Int32)), (.int p2), (.int p3)] 15)) t := fun t k => castTop (ef_3 m a0 (3 : Int32) p2 p3) k
  obtain ⟨w_7_7, w_8_7, w_9_7, w_10_7, w_11_7, w_12_7, w_13_7, w_14_7, w_15_7, w_16_7, w_17_7, T7, L7, X7, N7, e7, g7_0, g7_1, g7_2, g7_3, g7_4, g7_5, g7_6, g7_7, g7_8, g7_9, g7_10, st7⟩ := rm3s l Z A0 hw cs_a0 w_COMPACT_STRINGS w_SIOOBE_FORMATTER a0 (3 : Int32) p2 p3 h0 n0 OLD f_1 c_2 f_3 c_4 f_5 c_6 X0 hx hZ hby hml hown hh e0
  obtain ⟨T8, h8, X8, e8, E8, A8, D8, M8, st8⟩ := newO X7 hx hZ hown (hw _ (List.mem_of_getElem? (i := 106) rfl)) (hw _ (List.mem_of_getElem? (i := 3) rfl)) (hw _ (List.mem_of_getElem? (i := 2) rfl)) e7 (g := (mkF m 146 #[vR a0, vI (3 : Int32), vI p2, vI p3, vI w_7_7, vI w_8_7, vI w_9_7, vI w_10_7, vI w_11_7, vI w_12_7, vI w_13_7, vI w_14_7, vI w_15_7, vI w_16_7, vI w_17_7] [])) rfl (hb hby d3_146) (by decide) (by decide)
  obtain ⟨b8, g8⟩ : ∃ z, z = h0.size := ⟨_, rfl⟩
  rw [← g8] at A8 D8 M8 st8
  have K_9 : Keep h0 h8 [] := (Keep.refl h0 []).ext E8
  have f_10 : Fld Z h8 b8 "java/lang/String" "value" "[B" .null := (D8 (Or.inr (hw _ (List.mem_of_getElem? (i := 5) rfl))) (ty := (.array .byte)) (by decide))
  have f_11 : Fld Z h8 b8 "java/lang/String" "coder" "B" (.int (0 : Int32)) := (D8 (Or.inr (hw _ (List.mem_of_getElem? (i := 6) rfl))) (ty := .byte) (by decide))
  obtain ⟨T12, h12, k12, X12, e12, E12, A12, st12⟩ := newP X8 hx hZ (hw _ (List.mem_of_getElem? (i := 107) rfl)) e8 (g := (mkF m 151 #[vR a0, vI (3 : Int32), vI p2, vI p3, vI w_7_7, vI w_8_7, vI w_9_7, vI w_10_7, vI w_11_7, vI w_12_7, vI w_13_7, vI w_14_7, vI w_15_7, vI w_16_7, vI w_17_7] [(.int (3 : Int32)), (.ref b8), (.ref b8)])) rfl (hb hby d3_151) rfl (by decide) (cap := 3) (by decide) (by decide) (by decide) (by decide)
  obtain ⟨b12, g12⟩ : ∃ z, z = h8.size := ⟨_, rfl⟩
  rw [← g12] at A12 st12
  have K_13 : Keep h0 h12 [] := K_9.ext E12
  have f_14 : Arv Z h12 b12 k12 .char (3 : Int32) [(.int (0 : Int32)), (.int (0 : Int32)), (.int (0 : Int32))] (.int (0 : Int32)) := (Arv.new A12 (by decide)).pad (pad_rep [] (.int (0 : Int32)) 3)
  obtain ⟨cl15, Ar15, q15, s15, n15, hh15, gg15⟩ := id (f_14)
  have hin15 : ¬ ((0 : Int32) < 0 ∨ cl15.slots.size ≤ ((0 : Int32)).toNatClampNeg) := inb_of s15 ⟨by decide, by decide⟩
  obtain ⟨T16, h16, X16, e16, W16, st16⟩ := stC X12 hx hZ e12 Ar15 (j := (0 : Int32)) hin15 (g := (mkF m 157 #[vR a0, vI (3 : Int32), vI p2, vI p3, vI w_7_7, vI w_8_7, vI w_9_7, vI w_10_7, vI w_11_7, vI w_12_7, vI w_13_7, vI w_14_7, vI w_15_7, vI w_16_7, vI w_17_7] [(.int w_7_7), (.int (0 : Int32)), (.ref b12), (.ref b12), (.ref b8), (.ref b8)])) rfl rfl (hb hby d3_157)
  have O_17 := Old.ext OLD E8
  have ge_18 : n0 ≤ b12 := own_ge O_17 (Nat.le_of_eq g12.symm)
  have N16 := Fr.snoc X16 N7 ge_18
  have f_19 : Arv Z h16 b12 k12 .char (3 : Int32) [(.int (nar .char w_7_7)), (.int (0 : Int32)), (.int (0 : Int32))] (.int (0 : Int32)) := Arv.set Ar15 q15 s15 n15 hh15 gg15 (fits_nar_char _) W16 0 rfl (Nat.le_of_ble_eq_true rfl)
  have K_20 : Keep h0 h16 [] := K_13.wr W16 (Or.inr (Nat.le_trans K_9.1 (Nat.le_of_eq g12.symm)))
  obtain ⟨cl21, Ar21, q21, s21, n21, hh21, gg21⟩ := id (f_19)
  have hin21 : ¬ ((1 : Int32) < 0 ∨ cl21.slots.size ≤ ((1 : Int32)).toNatClampNeg) := inb_of s21 ⟨by decide, by decide⟩
  obtain ⟨T22, h22, X22, e22, W22, st22⟩ := stC X16 hx hZ e16 Ar21 (j := (1 : Int32)) hin21 (g := (mkF m 162 #[vR a0, vI (3 : Int32), vI p2, vI p3, vI w_7_7, vI w_8_7, vI w_9_7, vI w_10_7, vI w_11_7, vI w_12_7, vI w_13_7, vI w_14_7, vI w_15_7, vI w_16_7, vI w_17_7] [(.int w_8_7), (.int (1 : Int32)), (.ref b12), (.ref b12), (.ref b8), (.ref b8)])) rfl rfl (hb hby d3_162)
  have N22 := Fr.snoc X22 N16 ge_18
  have f_23 : Arv Z h22 b12 k12 .char (3 : Int32) [(.int (nar .char w_7_7)), (.int (nar .char w_8_7)), (.int (0 : Int32))] (.int (0 : Int32)) := Arv.set Ar21 q21 s21 n21 hh21 gg21 (fits_nar_char _) W22 1 rfl (Nat.le_of_ble_eq_true rfl)
  have K_24 : Keep h0 h22 [] := K_20.wr W22 (Or.inr (Nat.le_trans K_9.1 (Nat.le_of_eq g12.symm)))
  obtain ⟨cl25, Ar25, q25, s25, n25, hh25, gg25⟩ := id (f_23)
  have hin25 : ¬ ((2 : Int32) < 0 ∨ cl25.slots.size ≤ ((2 : Int32)).toNatClampNeg) := inb_of s25 ⟨by decide, by decide⟩
  obtain ⟨T26, h26, X26, e26, W26, st26⟩ := stC X22 hx hZ e22 Ar25 (j := (2 : Int32)) hin25 (g := (mkF m 167 #[vR a0, vI (3 : Int32), vI p2, vI p3, vI w_7_7, vI w_8_7, vI w_9_7, vI w_10_7, vI w_11_7, vI w_12_7, vI w_13_7, vI w_14_7, vI w_15_7, vI w_16_7, vI w_17_7] [(.int w_9_7), (.int (2 : Int32)), (.ref b12), (.ref b12), (.ref b8), (.ref b8)])) rfl rfl (hb hby d3_167)
  have N26 := Fr.snoc X26 N22 ge_18
  have f_27 : Arv Z h26 b12 k12 .char (3 : Int32) [(.int (nar .char w_7_7)), (.int (nar .char w_8_7)), (.int (nar .char w_9_7))] (.int (0 : Int32)) := Arv.set Ar25 q25 s25 n25 hh25 gg25 (fits_nar_char _) W26 2 rfl (Nat.le_of_ble_eq_true rfl)
  have K_28 : Keep h0 h26 [] := K_24.wr W26 (Or.inr (Nat.le_trans K_9.1 (Nat.le_of_eq g12.symm)))
  have O_29 := Old.ext O_17 E12
  have O_30 := Old.wr O_29 W16 ge_18
  have O_31 := Old.wr O_30 W22 ge_18
  have O_32 := Old.wr O_31 W26 ge_18
  have ge_33 : n0 ≤ b8 := own_ge OLD (Nat.le_of_eq g8.symm)
  have f_34 := A8.ext E12
  have f_35 := f_34.wr W16
  have f_36 := f_35.wr W22
  have f_37 := f_36.wr W26
  have f_38 := f_10.ext E12
  have ne_39 : b8 ≠ b12 := Nat.ne_of_lt (Nat.lt_of_lt_of_le A8.lt (Nat.le_of_eq g12.symm))
  have f_40 := f_38.other W16 (Or.inl ne_39)
  have f_41 := f_40.other W22 (Or.inl ne_39)
  have f_42 := f_41.other W26 (Or.inl ne_39)
  have f_43 := f_11.ext E12
  have f_44 := f_43.other W16 (Or.inl ne_39)
  have f_45 := f_44.other W22 (Or.inl ne_39)
  have f_46 := f_45.other W26 (Or.inl ne_39)
  obtain ⟨_, _, ⟨T47, L47, k47, n47⟩, -, X47, ⟨Lc47, hQ47, l47, y47, z47⟩, st47⟩ := X26.specialBack hx (y := (⟨"java/lang/String", "<init>", "([C)V"⟩ : MethodName)) rfl hown (mvT hZ (hw _ (List.mem_of_getElem? (i := 108) rfl))) (mvT hZ (hw _ (List.mem_of_getElem? (i := 109) rfl))) (mvT hZ (hw _ (List.mem_of_getElem? (i := 110) rfl))) (by decide) (own_newB (W := 1) (n := 3) (cs := ([(nar .char w_7_7), (nar .char w_8_7), (nar .char w_9_7)] : List Int32)) hZ hw O_32 f_3 c_4 ge_33 f_37 f_42 f_46 f_27 rfl (by decide) (by decide) (own_cS (own_bn g7_0) (own_cS (own_bn g7_1) (own_cS (own_bn g7_2) own_c0))) (by decide) (by decide)) (g := (mkF m 168 #[vR a0, vI (3 : Int32), vI p2, vI p3, vI w_7_7, vI w_8_7, vI w_9_7, vI w_10_7, vI w_11_7, vI w_12_7, vI w_13_7, vI w_14_7, vI w_15_7, vI w_16_7, vI w_17_7] [(.ref b12), (.ref b8), (.ref b8)])) rfl (by rw [hml]; rfl) (Steps.refl _) (a := b8) (argsL := [(.ref b12)]) (rest := [(.ref b8)]) (lenOf pd_7 rfl) rfl (by show 2 * 0 + _ ≤ _; exact Nat.le_of_eq rfl) (hb hby d3_168) (fun _ _ => ⟨rfl, e26, (by decide : 2 + 1 ≤ _), (by decide : 7 + 3 ≤ _)⟩)
  dsimp only [Pt.U, Pt.locs, Pt.cells, Pt.slots] at X47 l47 y47 z47 st47 hQ47
  subst l47 y47 z47
  obtain ⟨rfl, N47q, K47, g47_0⟩ := hQ47
  have N47 := Fr.app N26 N47q
  have K_48 : Keep h0 T47.heap [] := Keep.trans K_28 K47 (allS (Or.inr (Nat.le_trans (Keep.refl h0 []).1 (Nat.le_of_eq g8.symm))) all0)
  have f_49 := f_37.keep K47
  obtain ⟨fs, hr, hrun, hended, hW, hsame⟩ := X47.leave (v := some (.ref b8)) (fun h => by rw [Bd.returns] at h; cases h)
  refine ⟨_, _, pre0 _ ?_, hrun, hended, _, _, rfl, ?_, ⟨_, rfl⟩, hW, hsame.mono (by decide) (by decide)⟩
  · show Steps p.tables e below (s₁.setTop (mkF m 0 #[vR a0, vI (3 : Int32), vI p2, vI p3, .unset, .unset, .unset, .unset, .unset, .unset, .unset, .unset, .unset, .unset, .unset] [])) _
    refine st7 _ ?_
    show Steps p.tables e below (T7.setTop (mkF m 104 #[vR a0, vI (3 : Int32), vI p2, vI p3, vI w_7_7, vI w_8_7, vI w_9_7, vI w_10_7, vI w_11_7, vI w_12_7, vI w_13_7, vI w_14_7, vI w_15_7, vI w_16_7, vI w_17_7] [])) _
    refine XS.iloadN X7.here hx rfl (hb hby d3_104) rfl ?_
    refine XS.iconst X7.here hx rfl (hb hby d3_105) ?_
    show Steps p.tables e below (T7.setTop (mkF m 106 #[vR a0, vI (3 : Int32), vI p2, vI p3, vI w_7_7, vI w_8_7, vI w_9_7, vI w_10_7, vI w_11_7, vI w_12_7, vI w_13_7, vI w_14_7, vI w_15_7, vI w_16_7, vI w_17_7] [(.int (1 : Int32)), (.int (3 : Int32))])) _
    refine XS.icmpYes X7.here hx rfl (pc0 := 106) (pc' := 115) rfl (hb hby d3_106) rfl (feq (by decide : ¬ ((3 : Int32) = (1 : Int32)))).2 (by decide) (by decide) ?_
    refine XS.iloadN X7.here hx rfl (hb hby d3_115) rfl ?_
    show Steps p.tables e below (T7.setTop (mkF m 116 #[vR a0, vI (3 : Int32), vI p2, vI p3, vI w_7_7, vI w_8_7, vI w_9_7, vI w_10_7, vI w_11_7, vI w_12_7, vI w_13_7, vI w_14_7, vI w_15_7, vI w_16_7, vI w_17_7] [(.int (3 : Int32))])) _
    refine XS.iconst X7.here hx rfl (hb hby d3_116) ?_
    refine XS.icmpYes X7.here hx rfl (pc0 := 117) (pc' := 141) rfl (hb hby d3_117) rfl (feq (by decide : ¬ ((3 : Int32) = (2 : Int32)))).2 (by decide) (by decide) ?_
    show Steps p.tables e below (T7.setTop (mkF m 141 #[vR a0, vI (3 : Int32), vI p2, vI p3, vI w_7_7, vI w_8_7, vI w_9_7, vI w_10_7, vI w_11_7, vI w_12_7, vI w_13_7, vI w_14_7, vI w_15_7, vI w_16_7, vI w_17_7] [])) _
    refine XS.iloadN X7.here hx rfl (hb hby d3_141) rfl ?_
    refine XS.iconst X7.here hx rfl (hb hby d3_142) ?_
    show Steps p.tables e below (T7.setTop (mkF m 143 #[vR a0, vI (3 : Int32), vI p2, vI p3, vI w_7_7, vI w_8_7, vI w_9_7, vI w_10_7, vI w_11_7, vI w_12_7, vI w_13_7, vI w_14_7, vI w_15_7, vI w_16_7, vI w_17_7] [(.int (3 : Int32)), (.int (3 : Int32))])) _
    refine XS.icmpNo X7.here hx rfl (hb hby d3_143) rfl (teq (by decide : (3 : Int32) = (3 : Int32))).2 ?_
    refine st8 _ ?_
    show Steps p.tables e below (T8.setTop (mkF m 149 #[vR a0, vI (3 : Int32), vI p2, vI p3, vI w_7_7, vI w_8_7, vI w_9_7, vI w_10_7, vI w_11_7, vI w_12_7, vI w_13_7, vI w_14_7, vI w_15_7, vI w_16_7, vI w_17_7] [(.ref b8)])) _
    refine XS.dup X8.here hx rfl (hb hby d3_149) rfl rfl ?_
    refine XS.iconst X8.here hx rfl (hb hby d3_150) ?_
    show Steps p.tables e below (T8.setTop (mkF m 151 #[vR a0, vI (3 : Int32), vI p2, vI p3, vI w_7_7, vI w_8_7, vI w_9_7, vI w_10_7, vI w_11_7, vI w_12_7, vI w_13_7, vI w_14_7, vI w_15_7, vI w_16_7, vI w_17_7] [(.int (3 : Int32)), (.ref b8), (.ref b8)])) _
    refine st12 _ ?_
    refine XS.dup X12.here hx rfl (hb hby d3_153) rfl rfl ?_
    show Steps p.tables e below (T12.setTop (mkF m 154 #[vR a0, vI (3 : Int32), vI p2, vI p3, vI w_7_7, vI w_8_7, vI w_9_7, vI w_10_7, vI w_11_7, vI w_12_7, vI w_13_7, vI w_14_7, vI w_15_7, vI w_16_7, vI w_17_7] [(.ref b12), (.ref b12), (.ref b8), (.ref b8)])) _
    refine XS.iconst X12.here hx rfl (hb hby d3_154) ?_
    refine XS.iload X12.here hx rfl (hb hby d3_155) rfl ?_
    show Steps p.tables e below (T12.setTop (mkF m 157 #[vR a0, vI (3 : Int32), vI p2, vI p3, vI w_7_7, vI w_8_7, vI w_9_7, vI w_10_7, vI w_11_7, vI w_12_7, vI w_13_7, vI w_14_7, vI w_15_7, vI w_16_7, vI w_17_7] [(.int w_7_7), (.int (0 : Int32)), (.ref b12), (.ref b12), (.ref b8), (.ref b8)])) _
    refine st16 _ ?_
    refine XS.dup X16.here hx rfl (hb hby d3_158) rfl rfl ?_
    show Steps p.tables e below (T16.setTop (mkF m 159 #[vR a0, vI (3 : Int32), vI p2, vI p3, vI w_7_7, vI w_8_7, vI w_9_7, vI w_10_7, vI w_11_7, vI w_12_7, vI w_13_7, vI w_14_7, vI w_15_7, vI w_16_7, vI w_17_7] [(.ref b12), (.ref b12), (.ref b8), (.ref b8)])) _
    refine XS.iconst X16.here hx rfl (hb hby d3_159) ?_
    refine XS.iload X16.here hx rfl (hb hby d3_160) rfl ?_
    show Steps p.tables e below (T16.setTop (mkF m 162 #[vR a0, vI (3 : Int32), vI p2, vI p3, vI w_7_7, vI w_8_7, vI w_9_7, vI w_10_7, vI w_11_7, vI w_12_7, vI w_13_7, vI w_14_7, vI w_15_7, vI w_16_7, vI w_17_7] [(.int w_8_7), (.int (1 : Int32)), (.ref b12), (.ref b12), (.ref b8), (.ref b8)])) _
    refine st22 _ ?_
    refine XS.dup X22.here hx rfl (hb hby d3_163) rfl rfl ?_
    show Steps p.tables e below (T22.setTop (mkF m 164 #[vR a0, vI (3 : Int32), vI p2, vI p3, vI w_7_7, vI w_8_7, vI w_9_7, vI w_10_7, vI w_11_7, vI w_12_7, vI w_13_7, vI w_14_7, vI w_15_7, vI w_16_7, vI w_17_7] [(.ref b12), (.ref b12), (.ref b8), (.ref b8)])) _
    refine XS.iconst X22.here hx rfl (hb hby d3_164) ?_
    refine XS.iload X22.here hx rfl (hb hby d3_165) rfl ?_
    show Steps p.tables e below (T22.setTop (mkF m 167 #[vR a0, vI (3 : Int32), vI p2, vI p3, vI w_7_7, vI w_8_7, vI w_9_7, vI w_10_7, vI w_11_7, vI w_12_7, vI w_13_7, vI w_14_7, vI w_15_7, vI w_16_7, vI w_17_7] [(.int w_9_7), (.int (2 : Int32)), (.ref b12), (.ref b12), (.ref b8), (.ref b8)])) _
    refine st26 _ ?_
    refine st47.trans ?_
    show Steps p.tables e below (T47.setTop (mkF m 171 #[vR a0, vI (3 : Int32), vI p2, vI p3, vI w_7_7, vI w_8_7, vI w_9_7, vI w_10_7, vI w_11_7, vI w_12_7, vI w_13_7, vI w_14_7, vI w_15_7, vI w_16_7, vI w_17_7] [(.ref b8)])) _
    jvm_step X47.here [X47.here.top, hx, (hb hby d3_171), X47.method', Bd.returns, Value.isRef, FieldType.isReference]
    first | (intro acts; rw [hr _ acts rfl rfl rfl]) | rw [hr _ _ rfl rfl rfl]
    exact Steps.refl _
  · show Q3n3 Z cs_a0 w_COMPACT_STRINGS w_SIOOBE_FORMATTER a0 p2 p3 h0 n0 _ T47.heap _
    exact ⟨b8, ([(nar .char w_7_7), (nar .char w_8_7), (nar .char w_9_7)] : List Int32), rfl, N47, K_48, (Nat.le_trans (Keep.refl h0 []).1 (Nat.le_of_eq g8.symm)), g47_0⟩
theorem d3_172 : decode method_5_code 172 = .ok (.iload_n 1, 1) := by decide +kernel
theorem d3_173 : decode method_5_code 173 = .ok (.iconst 4, 1) := by decide +kernel
theorem d3_174 : decode method_5_code 174 = .ok (.if_icmp .ne 34, 3) := by decide +kernel
theorem d3_208 : decode method_5_code 208 = .ok (.iload_n 1, 1) := by decide +kernel
theorem d3_209 : decode method_5_code 209 = .ok (.iconst 5, 1) := by decide +kernel
theorem d3_210 : decode method_5_code 210 = .ok (.if_icmp .ne 39, 3) := by decide +kernel
theorem d3_249 : decode method_5_code 249 = .ok (.iload_n 1, 1) := by decide +kernel
theorem d3_250 : decode method_5_code 250 = .ok (.bipush 6, 2) := by decide +kernel
theorem d3_252 : decode method_5_code 252 = .ok (.if_icmp .ne 45, 3) := by decide +kernel
theorem d3_255 : decode method_5_code 255 = .ok (.new 8, 3) := by decide +kernel
theorem d3_258 : decode method_5_code 258 = .ok (.dup, 1) := by decide +kernel
theorem d3_259 : decode method_5_code 259 = .ok (.bipush 6, 2) := by decide +kernel
theorem d3_261 : decode method_5_code 261 = .ok (.newarray .char, 2) := by decide +kernel
theorem d3_263 : decode method_5_code 263 = .ok (.dup, 1) := by decide +kernel
theorem d3_264 : decode method_5_code 264 = .ok (.iconst 0, 1) := by decide +kernel
theorem d3_265 : decode method_5_code 265 = .ok (.iload 4, 2) := by decide +kernel
theorem d3_267 : decode method_5_code 267 = .ok (.castore, 1) := by decide +kernel
theorem d3_268 : decode method_5_code 268 = .ok (.dup, 1) := by decide +kernel
theorem d3_269 : decode method_5_code 269 = .ok (.iconst 1, 1) := by decide +kernel
theorem d3_270 : decode method_5_code 270 = .ok (.iload 5, 2) := by decide +kernel
theorem d3_272 : decode method_5_code 272 = .ok (.castore, 1) := by decide +kernel
theorem d3_273 : decode method_5_code 273 = .ok (.dup, 1) := by decide +kernel
theorem d3_274 : decode method_5_code 274 = .ok (.iconst 2, 1) := by decide +kernel
theorem d3_275 : decode method_5_code 275 = .ok (.iload 6, 2) := by decide +kernel
theorem d3_277 : decode method_5_code 277 = .ok (.castore, 1) := by decide +kernel
theorem d3_278 : decode method_5_code 278 = .ok (.dup, 1) := by decide +kernel
theorem d3_279 : decode method_5_code 279 = .ok (.iconst 3, 1) := by decide +kernel
theorem d3_280 : decode method_5_code 280 = .ok (.iload 7, 2) := by decide +kernel
theorem d3_282 : decode method_5_code 282 = .ok (.castore, 1) := by decide +kernel
theorem d3_283 : decode method_5_code 283 = .ok (.dup, 1) := by decide +kernel
theorem d3_284 : decode method_5_code 284 = .ok (.iconst 4, 1) := by decide +kernel
theorem d3_285 : decode method_5_code 285 = .ok (.iload 8, 2) := by decide +kernel
theorem d3_287 : decode method_5_code 287 = .ok (.castore, 1) := by decide +kernel
theorem d3_288 : decode method_5_code 288 = .ok (.dup, 1) := by decide +kernel
theorem d3_289 : decode method_5_code 289 = .ok (.iconst 5, 1) := by decide +kernel
theorem d3_290 : decode method_5_code 290 = .ok (.iload 9, 2) := by decide +kernel
theorem d3_292 : decode method_5_code 292 = .ok (.castore, 1) := by decide +kernel
theorem d3_293 : decode method_5_code 293 = .ok (.invokespecial 10, 3) := by decide +kernel
theorem d3_296 : decode method_5_code 296 = .ok (.areturn, 1) := by decide +kernel
def Q3n6 (Z : State) (cs_a0 : List Int32) (w_COMPACT_STRINGS : Int32) (w_SIOOBE_FORMATTER : Value) (a0 : Addr) (p2 : Int32) (p3 : Int32) (h0 : Heap) (n0 : Nat) (v : Option Value) (h : Heap) (L : List Loc) : Prop := ∃ b8 : Addr, ∃ cs_out : List Int32, v = some (.ref b8) ∧ Fr n0 L ∧ Keep h0 h [] ∧ h0.size ≤ b8 ∧ own_Txt Z h b8 cs_out
set_option maxRecDepth 65536 in
set_option maxHeartbeats 40000000 in
theorem rm3n6 (l : Launch) (Z : State) (A0 : Array Value) (hw : ∀ d ∈ tables_1, d.before A0 Z = true) (ws : List Jvm.Cond) (cs_a0 : List Int32) (w_COMPACT_STRINGS : Int32) (w_SIOOBE_FORMATTER : Value) (a0 : Addr) (p2 : Int32) (p3 : Int32) (h0 : Heap) (n0 : Nat) (OLD : Old Z n0 h0) (f_1 : own_Txt Z h0 a0 cs_a0) (c_2 : own_B p3) (f_3 : Sta Z Z.heap "java/lang/String" "COMPACT_STRINGS" "Z" (.int w_COMPACT_STRINGS)) (c_4 : ¬ (w_COMPACT_STRINGS = (0 : Int32))) (f_5 : Sta Z Z.heap "jdk/internal/util/Preconditions" "SIOOBE_FORMATTER" "Ljava/util/function/BiFunction;" w_SIOOBE_FORMATTER) (c_6 : w_SIOOBE_FORMATTER.isRef = true) :
    MetFree l (⟨"com/example/seshat/seshat/jpql/DatabaseNamedPinLaw", "word", "(Ljava/lang/String;IIC)Ljava/lang/String;"⟩ : MethodName) (head1 (Jvm.Cond.code (⟨"com/example/seshat/seshat/jpql/DatabaseNamedPinLaw", "word", "(Ljava/lang/String;IIC)Ljava/lang/String;"⟩ : MethodName) method_5_code 15 (some (.object "java/lang/String")) :: ws) ({ frames := 6, cells := 3, slots := 40, locals := 120 } : Room)) (fun a U => a = #[(.ref a0), (.int (6 : Int32)), (.int p2), (.int p3)] ∧ Z.Warmed39 U.vm ∧ U.heap = h0) (fun _ _ _ _ _ => True) (fun _ U o U' => ∃ v L, o = .returned v ∧ Q3n6 Z cs_a0 w_COMPACT_STRINGS w_SIOOBE_FORMATTER a0 p2 p3 h0 n0 v U'.heap L ∧ FrameEnd U o U' L ({ frames := 6, cells := 3, slots := 40, locals := 120 } : Room).cells ({ frames := 6, cells := 3, slots := 40, locals := 120 } : Room).slots) := by
  refine MetFree.of_bodySF (plainFor_of_name pn_com_example_seshat_seshat_jpql_DatabaseNamedPinLaw) hisR ?_
  intro p e s m args below meth c s₁ Bd hml0 hP hK
  obtain ⟨rfl, hZ, hh⟩ := hP
  have hx := Bd.exec
  have hby := Bd.bytes
  have hml : c.maxLocals = 15 := hml0
  have hown : s.vm.findClass "com/example/seshat/seshat/jpql/DatabaseNamedPinLaw" = some m.cls := findClass_of_methodNamed Bd.named
  have hnm := (name_of_methodNamed Bd.named Bd.method).1
  have X0 : Stand p l e ({ frames := 6, cells := 3, slots := 40, locals := 120 } : Room) s m #[(.ref a0), (.int (6 : Int32)), (.int p2), (.int p3)] below meth c s₁ [] 0 0 := Stand.of_body Bd
  have e0 : s₁.heap = h0 := by rw [← hh, Bd.state]; rfl
  have N0 := Fr.nil n0
  have pre0 : ∀ t, Steps p.tables e below (s₁.setTop (mkF m 0 #[vR a0, vI (6 : Int32), vI p2, vI p3, .unset, .unset, .unset, .unset, .unset, .unset, .unset, .unset, .unset, .unset, .unset] [])) t → Steps p.tables e below (s₁.setTop (entryFrame m #[(.ref a0), (.int (6 : Int32)), (.int p2), (.int p3)] 15)) t := fun t k => castTop (ef_3 m a0 (6 : Int32) p2 p3) k
  obtain ⟨w_7_7, w_8_7, w_9_7, w_10_7, w_11_7, w_12_7, w_13_7, w_14_7, w_15_7, w_16_7, w_17_7, T7, L7, X7, N7, e7, g7_0, g7_1, g7_2, g7_3, g7_4, g7_5, g7_6, g7_7, g7_8, g7_9, g7_10, st7⟩ := rm3s l Z A0 hw cs_a0 w_COMPACT_STRINGS w_SIOOBE_FORMATTER a0 (6 : Int32) p2 p3 h0 n0 OLD f_1 c_2 f_3 c_4 f_5 c_6 X0 hx hZ hby hml hown hh e0
  obtain ⟨T8, h8, X8, e8, E8, A8, D8, M8, st8⟩ := newO X7 hx hZ hown (hw _ (List.mem_of_getElem? (i := 106) rfl)) (hw _ (List.mem_of_getElem? (i := 3) rfl)) (hw _ (List.mem_of_getElem? (i := 2) rfl)) e7 (g := (mkF m 255 #[vR a0, vI (6 : Int32), vI p2, vI p3, vI w_7_7, vI w_8_7, vI w_9_7, vI w_10_7, vI w_11_7, vI w_12_7, vI w_13_7, vI w_14_7, vI w_15_7, vI w_16_7, vI w_17_7] [])) rfl (hb hby d3_255) (by decide) (by decide)
  obtain ⟨b8, g8⟩ : ∃ z, z = h0.size := ⟨_, rfl⟩
  rw [← g8] at A8 D8 M8 st8
  have K_9 : Keep h0 h8 [] := (Keep.refl h0 []).ext E8
  have f_10 : Fld Z h8 b8 "java/lang/String" "value" "[B" .null := (D8 (Or.inr (hw _ (List.mem_of_getElem? (i := 5) rfl))) (ty := (.array .byte)) (by decide))
  have f_11 : Fld Z h8 b8 "java/lang/String" "coder" "B" (.int (0 : Int32)) := (D8 (Or.inr (hw _ (List.mem_of_getElem? (i := 6) rfl))) (ty := .byte) (by decide))
  obtain ⟨T12, h12, k12, X12, e12, E12, A12, st12⟩ := newP X8 hx hZ (hw _ (List.mem_of_getElem? (i := 107) rfl)) e8 (g := (mkF m 261 #[vR a0, vI (6 : Int32), vI p2, vI p3, vI w_7_7, vI w_8_7, vI w_9_7, vI w_10_7, vI w_11_7, vI w_12_7, vI w_13_7, vI w_14_7, vI w_15_7, vI w_16_7, vI w_17_7] [(.int (6 : Int32)), (.ref b8), (.ref b8)])) rfl (hb hby d3_261) rfl (by decide) (cap := 6) (by decide) (by decide) (by decide) (by decide)
  obtain ⟨b12, g12⟩ : ∃ z, z = h8.size := ⟨_, rfl⟩
  rw [← g12] at A12 st12
  have K_13 : Keep h0 h12 [] := K_9.ext E12
  have f_14 : Arv Z h12 b12 k12 .char (6 : Int32) [(.int (0 : Int32)), (.int (0 : Int32)), (.int (0 : Int32)), (.int (0 : Int32)), (.int (0 : Int32)), (.int (0 : Int32))] (.int (0 : Int32)) := (Arv.new A12 (by decide)).pad (pad_rep [] (.int (0 : Int32)) 6)
  obtain ⟨cl15, Ar15, q15, s15, n15, hh15, gg15⟩ := id (f_14)
  have hin15 : ¬ ((0 : Int32) < 0 ∨ cl15.slots.size ≤ ((0 : Int32)).toNatClampNeg) := inb_of s15 ⟨by decide, by decide⟩
  obtain ⟨T16, h16, X16, e16, W16, st16⟩ := stC X12 hx hZ e12 Ar15 (j := (0 : Int32)) hin15 (g := (mkF m 267 #[vR a0, vI (6 : Int32), vI p2, vI p3, vI w_7_7, vI w_8_7, vI w_9_7, vI w_10_7, vI w_11_7, vI w_12_7, vI w_13_7, vI w_14_7, vI w_15_7, vI w_16_7, vI w_17_7] [(.int w_7_7), (.int (0 : Int32)), (.ref b12), (.ref b12), (.ref b8), (.ref b8)])) rfl rfl (hb hby d3_267)
  have O_17 := Old.ext OLD E8
  have ge_18 : n0 ≤ b12 := own_ge O_17 (Nat.le_of_eq g12.symm)
  have N16 := Fr.snoc X16 N7 ge_18
  have f_19 : Arv Z h16 b12 k12 .char (6 : Int32) [(.int (nar .char w_7_7)), (.int (0 : Int32)), (.int (0 : Int32)), (.int (0 : Int32)), (.int (0 : Int32)), (.int (0 : Int32))] (.int (0 : Int32)) := Arv.set Ar15 q15 s15 n15 hh15 gg15 (fits_nar_char _) W16 0 rfl (Nat.le_of_ble_eq_true rfl)
  have K_20 : Keep h0 h16 [] := K_13.wr W16 (Or.inr (Nat.le_trans K_9.1 (Nat.le_of_eq g12.symm)))
  obtain ⟨cl21, Ar21, q21, s21, n21, hh21, gg21⟩ := id (f_19)
  have hin21 : ¬ ((1 : Int32) < 0 ∨ cl21.slots.size ≤ ((1 : Int32)).toNatClampNeg) := inb_of s21 ⟨by decide, by decide⟩
  obtain ⟨T22, h22, X22, e22, W22, st22⟩ := stC X16 hx hZ e16 Ar21 (j := (1 : Int32)) hin21 (g := (mkF m 272 #[vR a0, vI (6 : Int32), vI p2, vI p3, vI w_7_7, vI w_8_7, vI w_9_7, vI w_10_7, vI w_11_7, vI w_12_7, vI w_13_7, vI w_14_7, vI w_15_7, vI w_16_7, vI w_17_7] [(.int w_8_7), (.int (1 : Int32)), (.ref b12), (.ref b12), (.ref b8), (.ref b8)])) rfl rfl (hb hby d3_272)
  have N22 := Fr.snoc X22 N16 ge_18
  have f_23 : Arv Z h22 b12 k12 .char (6 : Int32) [(.int (nar .char w_7_7)), (.int (nar .char w_8_7)), (.int (0 : Int32)), (.int (0 : Int32)), (.int (0 : Int32)), (.int (0 : Int32))] (.int (0 : Int32)) := Arv.set Ar21 q21 s21 n21 hh21 gg21 (fits_nar_char _) W22 1 rfl (Nat.le_of_ble_eq_true rfl)
  have K_24 : Keep h0 h22 [] := K_20.wr W22 (Or.inr (Nat.le_trans K_9.1 (Nat.le_of_eq g12.symm)))
  obtain ⟨cl25, Ar25, q25, s25, n25, hh25, gg25⟩ := id (f_23)
  have hin25 : ¬ ((2 : Int32) < 0 ∨ cl25.slots.size ≤ ((2 : Int32)).toNatClampNeg) := inb_of s25 ⟨by decide, by decide⟩
  obtain ⟨T26, h26, X26, e26, W26, st26⟩ := stC X22 hx hZ e22 Ar25 (j := (2 : Int32)) hin25 (g := (mkF m 277 #[vR a0, vI (6 : Int32), vI p2, vI p3, vI w_7_7, vI w_8_7, vI w_9_7, vI w_10_7, vI w_11_7, vI w_12_7, vI w_13_7, vI w_14_7, vI w_15_7, vI w_16_7, vI w_17_7] [(.int w_9_7), (.int (2 : Int32)), (.ref b12), (.ref b12), (.ref b8), (.ref b8)])) rfl rfl (hb hby d3_277)
  have N26 := Fr.snoc X26 N22 ge_18
  have f_27 : Arv Z h26 b12 k12 .char (6 : Int32) [(.int (nar .char w_7_7)), (.int (nar .char w_8_7)), (.int (nar .char w_9_7)), (.int (0 : Int32)), (.int (0 : Int32)), (.int (0 : Int32))] (.int (0 : Int32)) := Arv.set Ar25 q25 s25 n25 hh25 gg25 (fits_nar_char _) W26 2 rfl (Nat.le_of_ble_eq_true rfl)
  have K_28 : Keep h0 h26 [] := K_24.wr W26 (Or.inr (Nat.le_trans K_9.1 (Nat.le_of_eq g12.symm)))
  obtain ⟨cl29, Ar29, q29, s29, n29, hh29, gg29⟩ := id (f_27)
  have hin29 : ¬ ((3 : Int32) < 0 ∨ cl29.slots.size ≤ ((3 : Int32)).toNatClampNeg) := inb_of s29 ⟨by decide, by decide⟩
  obtain ⟨T30, h30, X30, e30, W30, st30⟩ := stC X26 hx hZ e26 Ar29 (j := (3 : Int32)) hin29 (g := (mkF m 282 #[vR a0, vI (6 : Int32), vI p2, vI p3, vI w_7_7, vI w_8_7, vI w_9_7, vI w_10_7, vI w_11_7, vI w_12_7, vI w_13_7, vI w_14_7, vI w_15_7, vI w_16_7, vI w_17_7] [(.int w_10_7), (.int (3 : Int32)), (.ref b12), (.ref b12), (.ref b8), (.ref b8)])) rfl rfl (hb hby d3_282)
  have N30 := Fr.snoc X30 N26 ge_18
  have f_31 : Arv Z h30 b12 k12 .char (6 : Int32) [(.int (nar .char w_7_7)), (.int (nar .char w_8_7)), (.int (nar .char w_9_7)), (.int (nar .char w_10_7)), (.int (0 : Int32)), (.int (0 : Int32))] (.int (0 : Int32)) := Arv.set Ar29 q29 s29 n29 hh29 gg29 (fits_nar_char _) W30 3 rfl (Nat.le_of_ble_eq_true rfl)
  have K_32 : Keep h0 h30 [] := K_28.wr W30 (Or.inr (Nat.le_trans K_9.1 (Nat.le_of_eq g12.symm)))
  obtain ⟨cl33, Ar33, q33, s33, n33, hh33, gg33⟩ := id (f_31)
  have hin33 : ¬ ((4 : Int32) < 0 ∨ cl33.slots.size ≤ ((4 : Int32)).toNatClampNeg) := inb_of s33 ⟨by decide, by decide⟩
  obtain ⟨T34, h34, X34, e34, W34, st34⟩ := stC X30 hx hZ e30 Ar33 (j := (4 : Int32)) hin33 (g := (mkF m 287 #[vR a0, vI (6 : Int32), vI p2, vI p3, vI w_7_7, vI w_8_7, vI w_9_7, vI w_10_7, vI w_11_7, vI w_12_7, vI w_13_7, vI w_14_7, vI w_15_7, vI w_16_7, vI w_17_7] [(.int w_11_7), (.int (4 : Int32)), (.ref b12), (.ref b12), (.ref b8), (.ref b8)])) rfl rfl (hb hby d3_287)
  have N34 := Fr.snoc X34 N30 ge_18
  have f_35 : Arv Z h34 b12 k12 .char (6 : Int32) [(.int (nar .char w_7_7)), (.int (nar .char w_8_7)), (.int (nar .char w_9_7)), (.int (nar .char w_10_7)), (.int (nar .char w_11_7)), (.int (0 : Int32))] (.int (0 : Int32)) := Arv.set Ar33 q33 s33 n33 hh33 gg33 (fits_nar_char _) W34 4 rfl (Nat.le_of_ble_eq_true rfl)
  have K_36 : Keep h0 h34 [] := K_32.wr W34 (Or.inr (Nat.le_trans K_9.1 (Nat.le_of_eq g12.symm)))
  obtain ⟨cl37, Ar37, q37, s37, n37, hh37, gg37⟩ := id (f_35)
  have hin37 : ¬ ((5 : Int32) < 0 ∨ cl37.slots.size ≤ ((5 : Int32)).toNatClampNeg) := inb_of s37 ⟨by decide, by decide⟩
  obtain ⟨T38, h38, X38, e38, W38, st38⟩ := stC X34 hx hZ e34 Ar37 (j := (5 : Int32)) hin37 (g := (mkF m 292 #[vR a0, vI (6 : Int32), vI p2, vI p3, vI w_7_7, vI w_8_7, vI w_9_7, vI w_10_7, vI w_11_7, vI w_12_7, vI w_13_7, vI w_14_7, vI w_15_7, vI w_16_7, vI w_17_7] [(.int w_12_7), (.int (5 : Int32)), (.ref b12), (.ref b12), (.ref b8), (.ref b8)])) rfl rfl (hb hby d3_292)
  have N38 := Fr.snoc X38 N34 ge_18
  have f_39 : Arv Z h38 b12 k12 .char (6 : Int32) [(.int (nar .char w_7_7)), (.int (nar .char w_8_7)), (.int (nar .char w_9_7)), (.int (nar .char w_10_7)), (.int (nar .char w_11_7)), (.int (nar .char w_12_7))] (.int (0 : Int32)) := Arv.set Ar37 q37 s37 n37 hh37 gg37 (fits_nar_char _) W38 5 rfl (Nat.le_of_ble_eq_true rfl)
  have K_40 : Keep h0 h38 [] := K_36.wr W38 (Or.inr (Nat.le_trans K_9.1 (Nat.le_of_eq g12.symm)))
  have O_41 := Old.ext O_17 E12
  have O_42 := Old.wr O_41 W16 ge_18
  have O_43 := Old.wr O_42 W22 ge_18
  have O_44 := Old.wr O_43 W26 ge_18
  have O_45 := Old.wr O_44 W30 ge_18
  have O_46 := Old.wr O_45 W34 ge_18
  have O_47 := Old.wr O_46 W38 ge_18
  have ge_48 : n0 ≤ b8 := own_ge OLD (Nat.le_of_eq g8.symm)
  have f_49 := A8.ext E12
  have f_50 := f_49.wr W16
  have f_51 := f_50.wr W22
  have f_52 := f_51.wr W26
  have f_53 := f_52.wr W30
  have f_54 := f_53.wr W34
  have f_55 := f_54.wr W38
  have f_56 := f_10.ext E12
  have ne_57 : b8 ≠ b12 := Nat.ne_of_lt (Nat.lt_of_lt_of_le A8.lt (Nat.le_of_eq g12.symm))
  have f_58 := f_56.other W16 (Or.inl ne_57)
  have f_59 := f_58.other W22 (Or.inl ne_57)
  have f_60 := f_59.other W26 (Or.inl ne_57)
  have f_61 := f_60.other W30 (Or.inl ne_57)
  have f_62 := f_61.other W34 (Or.inl ne_57)
  have f_63 := f_62.other W38 (Or.inl ne_57)
  have f_64 := f_11.ext E12
  have f_65 := f_64.other W16 (Or.inl ne_57)
  have f_66 := f_65.other W22 (Or.inl ne_57)
  have f_67 := f_66.other W26 (Or.inl ne_57)
  have f_68 := f_67.other W30 (Or.inl ne_57)
  have f_69 := f_68.other W34 (Or.inl ne_57)
  have f_70 := f_69.other W38 (Or.inl ne_57)
  obtain ⟨_, _, ⟨T71, L71, k71, n71⟩, -, X71, ⟨Lc71, hQ71, l71, y71, z71⟩, st71⟩ := X38.specialBack hx (y := (⟨"java/lang/String", "<init>", "([C)V"⟩ : MethodName)) rfl hown (mvT hZ (hw _ (List.mem_of_getElem? (i := 108) rfl))) (mvT hZ (hw _ (List.mem_of_getElem? (i := 109) rfl))) (mvT hZ (hw _ (List.mem_of_getElem? (i := 110) rfl))) (by decide) (own_newB (W := 1) (n := 6) (cs := ([(nar .char w_7_7), (nar .char w_8_7), (nar .char w_9_7), (nar .char w_10_7), (nar .char w_11_7), (nar .char w_12_7)] : List Int32)) hZ hw O_47 f_3 c_4 ge_48 f_55 f_63 f_70 f_39 rfl (by decide) (by decide) (own_cS (own_bn g7_0) (own_cS (own_bn g7_1) (own_cS (own_bn g7_2) (own_cS (own_bn g7_3) (own_cS (own_bn g7_4) (own_cS (own_bn g7_5) own_c0)))))) (by decide) (by decide)) (g := (mkF m 293 #[vR a0, vI (6 : Int32), vI p2, vI p3, vI w_7_7, vI w_8_7, vI w_9_7, vI w_10_7, vI w_11_7, vI w_12_7, vI w_13_7, vI w_14_7, vI w_15_7, vI w_16_7, vI w_17_7] [(.ref b12), (.ref b8), (.ref b8)])) rfl (by rw [hml]; rfl) (Steps.refl _) (a := b8) (argsL := [(.ref b12)]) (rest := [(.ref b8)]) (lenOf pd_7 rfl) rfl (by show 2 * 0 + _ ≤ _; exact Nat.le_of_eq rfl) (hb hby d3_293) (fun _ _ => ⟨rfl, e38, (by decide : 2 + 1 ≤ _), (by decide : 10 + 6 ≤ _)⟩)
  dsimp only [Pt.U, Pt.locs, Pt.cells, Pt.slots] at X71 l71 y71 z71 st71 hQ71
  subst l71 y71 z71
  obtain ⟨rfl, N71q, K71, g71_0⟩ := hQ71
  have N71 := Fr.app N38 N71q
  have K_72 : Keep h0 T71.heap [] := Keep.trans K_40 K71 (allS (Or.inr (Nat.le_trans (Keep.refl h0 []).1 (Nat.le_of_eq g8.symm))) all0)
  have f_73 := f_55.keep K71
  obtain ⟨fs, hr, hrun, hended, hW, hsame⟩ := X71.leave (v := some (.ref b8)) (fun h => by rw [Bd.returns] at h; cases h)
  refine ⟨_, _, pre0 _ ?_, hrun, hended, _, _, rfl, ?_, ⟨_, rfl⟩, hW, hsame.mono (by decide) (by decide)⟩
  · show Steps p.tables e below (s₁.setTop (mkF m 0 #[vR a0, vI (6 : Int32), vI p2, vI p3, .unset, .unset, .unset, .unset, .unset, .unset, .unset, .unset, .unset, .unset, .unset] [])) _
    refine st7 _ ?_
    show Steps p.tables e below (T7.setTop (mkF m 104 #[vR a0, vI (6 : Int32), vI p2, vI p3, vI w_7_7, vI w_8_7, vI w_9_7, vI w_10_7, vI w_11_7, vI w_12_7, vI w_13_7, vI w_14_7, vI w_15_7, vI w_16_7, vI w_17_7] [])) _
    refine XS.iloadN X7.here hx rfl (hb hby d3_104) rfl ?_
    refine XS.iconst X7.here hx rfl (hb hby d3_105) ?_
    show Steps p.tables e below (T7.setTop (mkF m 106 #[vR a0, vI (6 : Int32), vI p2, vI p3, vI w_7_7, vI w_8_7, vI w_9_7, vI w_10_7, vI w_11_7, vI w_12_7, vI w_13_7, vI w_14_7, vI w_15_7, vI w_16_7, vI w_17_7] [(.int (1 : Int32)), (.int (6 : Int32))])) _
    refine XS.icmpYes X7.here hx rfl (pc0 := 106) (pc' := 115) rfl (hb hby d3_106) rfl (feq (by decide : ¬ ((6 : Int32) = (1 : Int32)))).2 (by decide) (by decide) ?_
    refine XS.iloadN X7.here hx rfl (hb hby d3_115) rfl ?_
    show Steps p.tables e below (T7.setTop (mkF m 116 #[vR a0, vI (6 : Int32), vI p2, vI p3, vI w_7_7, vI w_8_7, vI w_9_7, vI w_10_7, vI w_11_7, vI w_12_7, vI w_13_7, vI w_14_7, vI w_15_7, vI w_16_7, vI w_17_7] [(.int (6 : Int32))])) _
    refine XS.iconst X7.here hx rfl (hb hby d3_116) ?_
    refine XS.icmpYes X7.here hx rfl (pc0 := 117) (pc' := 141) rfl (hb hby d3_117) rfl (feq (by decide : ¬ ((6 : Int32) = (2 : Int32)))).2 (by decide) (by decide) ?_
    show Steps p.tables e below (T7.setTop (mkF m 141 #[vR a0, vI (6 : Int32), vI p2, vI p3, vI w_7_7, vI w_8_7, vI w_9_7, vI w_10_7, vI w_11_7, vI w_12_7, vI w_13_7, vI w_14_7, vI w_15_7, vI w_16_7, vI w_17_7] [])) _
    refine XS.iloadN X7.here hx rfl (hb hby d3_141) rfl ?_
    refine XS.iconst X7.here hx rfl (hb hby d3_142) ?_
    show Steps p.tables e below (T7.setTop (mkF m 143 #[vR a0, vI (6 : Int32), vI p2, vI p3, vI w_7_7, vI w_8_7, vI w_9_7, vI w_10_7, vI w_11_7, vI w_12_7, vI w_13_7, vI w_14_7, vI w_15_7, vI w_16_7, vI w_17_7] [(.int (3 : Int32)), (.int (6 : Int32))])) _
    refine XS.icmpYes X7.here hx rfl (pc0 := 143) (pc' := 172) rfl (hb hby d3_143) rfl (feq (by decide : ¬ ((6 : Int32) = (3 : Int32)))).2 (by decide) (by decide) ?_
    refine XS.iloadN X7.here hx rfl (hb hby d3_172) rfl ?_
    show Steps p.tables e below (T7.setTop (mkF m 173 #[vR a0, vI (6 : Int32), vI p2, vI p3, vI w_7_7, vI w_8_7, vI w_9_7, vI w_10_7, vI w_11_7, vI w_12_7, vI w_13_7, vI w_14_7, vI w_15_7, vI w_16_7, vI w_17_7] [(.int (6 : Int32))])) _
    refine XS.iconst X7.here hx rfl (hb hby d3_173) ?_
    refine XS.icmpYes X7.here hx rfl (pc0 := 174) (pc' := 208) rfl (hb hby d3_174) rfl (feq (by decide : ¬ ((6 : Int32) = (4 : Int32)))).2 (by decide) (by decide) ?_
    show Steps p.tables e below (T7.setTop (mkF m 208 #[vR a0, vI (6 : Int32), vI p2, vI p3, vI w_7_7, vI w_8_7, vI w_9_7, vI w_10_7, vI w_11_7, vI w_12_7, vI w_13_7, vI w_14_7, vI w_15_7, vI w_16_7, vI w_17_7] [])) _
    refine XS.iloadN X7.here hx rfl (hb hby d3_208) rfl ?_
    refine XS.iconst X7.here hx rfl (hb hby d3_209) ?_
    show Steps p.tables e below (T7.setTop (mkF m 210 #[vR a0, vI (6 : Int32), vI p2, vI p3, vI w_7_7, vI w_8_7, vI w_9_7, vI w_10_7, vI w_11_7, vI w_12_7, vI w_13_7, vI w_14_7, vI w_15_7, vI w_16_7, vI w_17_7] [(.int (5 : Int32)), (.int (6 : Int32))])) _
    refine XS.icmpYes X7.here hx rfl (pc0 := 210) (pc' := 249) rfl (hb hby d3_210) rfl (feq (by decide : ¬ ((6 : Int32) = (5 : Int32)))).2 (by decide) (by decide) ?_
    refine XS.iloadN X7.here hx rfl (hb hby d3_249) rfl ?_
    show Steps p.tables e below (T7.setTop (mkF m 250 #[vR a0, vI (6 : Int32), vI p2, vI p3, vI w_7_7, vI w_8_7, vI w_9_7, vI w_10_7, vI w_11_7, vI w_12_7, vI w_13_7, vI w_14_7, vI w_15_7, vI w_16_7, vI w_17_7] [(.int (6 : Int32))])) _
    refine XS.bipush X7.here hx rfl (hb hby d3_250) ?_
    refine XS.icmpNo X7.here hx rfl (hb hby d3_252) rfl (teq (by decide : (6 : Int32) = (6 : Int32))).2 ?_
    show Steps p.tables e below (T7.setTop (mkF m 255 #[vR a0, vI (6 : Int32), vI p2, vI p3, vI w_7_7, vI w_8_7, vI w_9_7, vI w_10_7, vI w_11_7, vI w_12_7, vI w_13_7, vI w_14_7, vI w_15_7, vI w_16_7, vI w_17_7] [])) _
    refine st8 _ ?_
    refine XS.dup X8.here hx rfl (hb hby d3_258) rfl rfl ?_
    show Steps p.tables e below (T8.setTop (mkF m 259 #[vR a0, vI (6 : Int32), vI p2, vI p3, vI w_7_7, vI w_8_7, vI w_9_7, vI w_10_7, vI w_11_7, vI w_12_7, vI w_13_7, vI w_14_7, vI w_15_7, vI w_16_7, vI w_17_7] [(.ref b8), (.ref b8)])) _
    refine XS.bipush X8.here hx rfl (hb hby d3_259) ?_
    refine st12 _ ?_
    show Steps p.tables e below (T12.setTop (mkF m 263 #[vR a0, vI (6 : Int32), vI p2, vI p3, vI w_7_7, vI w_8_7, vI w_9_7, vI w_10_7, vI w_11_7, vI w_12_7, vI w_13_7, vI w_14_7, vI w_15_7, vI w_16_7, vI w_17_7] [(.ref b12), (.ref b8), (.ref b8)])) _
    refine XS.dup X12.here hx rfl (hb hby d3_263) rfl rfl ?_
    refine XS.iconst X12.here hx rfl (hb hby d3_264) ?_
    show Steps p.tables e below (T12.setTop (mkF m 265 #[vR a0, vI (6 : Int32), vI p2, vI p3, vI w_7_7, vI w_8_7, vI w_9_7, vI w_10_7, vI w_11_7, vI w_12_7, vI w_13_7, vI w_14_7, vI w_15_7, vI w_16_7, vI w_17_7] [(.int (0 : Int32)), (.ref b12), (.ref b12), (.ref b8), (.ref b8)])) _
    refine XS.iload X12.here hx rfl (hb hby d3_265) rfl ?_
    refine st16 _ ?_
    show Steps p.tables e below (T16.setTop (mkF m 268 #[vR a0, vI (6 : Int32), vI p2, vI p3, vI w_7_7, vI w_8_7, vI w_9_7, vI w_10_7, vI w_11_7, vI w_12_7, vI w_13_7, vI w_14_7, vI w_15_7, vI w_16_7, vI w_17_7] [(.ref b12), (.ref b8), (.ref b8)])) _
    refine XS.dup X16.here hx rfl (hb hby d3_268) rfl rfl ?_
    refine XS.iconst X16.here hx rfl (hb hby d3_269) ?_
    show Steps p.tables e below (T16.setTop (mkF m 270 #[vR a0, vI (6 : Int32), vI p2, vI p3, vI w_7_7, vI w_8_7, vI w_9_7, vI w_10_7, vI w_11_7, vI w_12_7, vI w_13_7, vI w_14_7, vI w_15_7, vI w_16_7, vI w_17_7] [(.int (1 : Int32)), (.ref b12), (.ref b12), (.ref b8), (.ref b8)])) _
    refine XS.iload X16.here hx rfl (hb hby d3_270) rfl ?_
    refine st22 _ ?_
    show Steps p.tables e below (T22.setTop (mkF m 273 #[vR a0, vI (6 : Int32), vI p2, vI p3, vI w_7_7, vI w_8_7, vI w_9_7, vI w_10_7, vI w_11_7, vI w_12_7, vI w_13_7, vI w_14_7, vI w_15_7, vI w_16_7, vI w_17_7] [(.ref b12), (.ref b8), (.ref b8)])) _
    refine XS.dup X22.here hx rfl (hb hby d3_273) rfl rfl ?_
    refine XS.iconst X22.here hx rfl (hb hby d3_274) ?_
    show Steps p.tables e below (T22.setTop (mkF m 275 #[vR a0, vI (6 : Int32), vI p2, vI p3, vI w_7_7, vI w_8_7, vI w_9_7, vI w_10_7, vI w_11_7, vI w_12_7, vI w_13_7, vI w_14_7, vI w_15_7, vI w_16_7, vI w_17_7] [(.int (2 : Int32)), (.ref b12), (.ref b12), (.ref b8), (.ref b8)])) _
    refine XS.iload X22.here hx rfl (hb hby d3_275) rfl ?_
    refine st26 _ ?_
    show Steps p.tables e below (T26.setTop (mkF m 278 #[vR a0, vI (6 : Int32), vI p2, vI p3, vI w_7_7, vI w_8_7, vI w_9_7, vI w_10_7, vI w_11_7, vI w_12_7, vI w_13_7, vI w_14_7, vI w_15_7, vI w_16_7, vI w_17_7] [(.ref b12), (.ref b8), (.ref b8)])) _
    refine XS.dup X26.here hx rfl (hb hby d3_278) rfl rfl ?_
    refine XS.iconst X26.here hx rfl (hb hby d3_279) ?_
    show Steps p.tables e below (T26.setTop (mkF m 280 #[vR a0, vI (6 : Int32), vI p2, vI p3, vI w_7_7, vI w_8_7, vI w_9_7, vI w_10_7, vI w_11_7, vI w_12_7, vI w_13_7, vI w_14_7, vI w_15_7, vI w_16_7, vI w_17_7] [(.int (3 : Int32)), (.ref b12), (.ref b12), (.ref b8), (.ref b8)])) _
    refine XS.iload X26.here hx rfl (hb hby d3_280) rfl ?_
    refine st30 _ ?_
    show Steps p.tables e below (T30.setTop (mkF m 283 #[vR a0, vI (6 : Int32), vI p2, vI p3, vI w_7_7, vI w_8_7, vI w_9_7, vI w_10_7, vI w_11_7, vI w_12_7, vI w_13_7, vI w_14_7, vI w_15_7, vI w_16_7, vI w_17_7] [(.ref b12), (.ref b8), (.ref b8)])) _
    refine XS.dup X30.here hx rfl (hb hby d3_283) rfl rfl ?_
    refine XS.iconst X30.here hx rfl (hb hby d3_284) ?_
    show Steps p.tables e below (T30.setTop (mkF m 285 #[vR a0, vI (6 : Int32), vI p2, vI p3, vI w_7_7, vI w_8_7, vI w_9_7, vI w_10_7, vI w_11_7, vI w_12_7, vI w_13_7, vI w_14_7, vI w_15_7, vI w_16_7, vI w_17_7] [(.int (4 : Int32)), (.ref b12), (.ref b12), (.ref b8), (.ref b8)])) _
    refine XS.iload X30.here hx rfl (hb hby d3_285) rfl ?_
    refine st34 _ ?_
    show Steps p.tables e below (T34.setTop (mkF m 288 #[vR a0, vI (6 : Int32), vI p2, vI p3, vI w_7_7, vI w_8_7, vI w_9_7, vI w_10_7, vI w_11_7, vI w_12_7, vI w_13_7, vI w_14_7, vI w_15_7, vI w_16_7, vI w_17_7] [(.ref b12), (.ref b8), (.ref b8)])) _
    refine XS.dup X34.here hx rfl (hb hby d3_288) rfl rfl ?_
    refine XS.iconst X34.here hx rfl (hb hby d3_289) ?_
    show Steps p.tables e below (T34.setTop (mkF m 290 #[vR a0, vI (6 : Int32), vI p2, vI p3, vI w_7_7, vI w_8_7, vI w_9_7, vI w_10_7, vI w_11_7, vI w_12_7, vI w_13_7, vI w_14_7, vI w_15_7, vI w_16_7, vI w_17_7] [(.int (5 : Int32)), (.ref b12), (.ref b12), (.ref b8), (.ref b8)])) _
    refine XS.iload X34.here hx rfl (hb hby d3_290) rfl ?_
    refine st38 _ ?_
    show Steps p.tables e below (T38.setTop (mkF m 293 #[vR a0, vI (6 : Int32), vI p2, vI p3, vI w_7_7, vI w_8_7, vI w_9_7, vI w_10_7, vI w_11_7, vI w_12_7, vI w_13_7, vI w_14_7, vI w_15_7, vI w_16_7, vI w_17_7] [(.ref b12), (.ref b8), (.ref b8)])) _
    refine st71.trans ?_
    show Steps p.tables e below (T71.setTop (mkF m 296 #[vR a0, vI (6 : Int32), vI p2, vI p3, vI w_7_7, vI w_8_7, vI w_9_7, vI w_10_7, vI w_11_7, vI w_12_7, vI w_13_7, vI w_14_7, vI w_15_7, vI w_16_7, vI w_17_7] [(.ref b8)])) _
    jvm_step X71.here [X71.here.top, hx, (hb hby d3_296), X71.method', Bd.returns, Value.isRef, FieldType.isReference]
    first | (intro acts; rw [hr _ acts rfl rfl rfl]) | rw [hr _ _ rfl rfl rfl]
    exact Steps.refl _
  · show Q3n6 Z cs_a0 w_COMPACT_STRINGS w_SIOOBE_FORMATTER a0 p2 p3 h0 n0 _ T71.heap _
    exact ⟨b8, ([(nar .char w_7_7), (nar .char w_8_7), (nar .char w_9_7), (nar .char w_10_7), (nar .char w_11_7), (nar .char w_12_7)] : List Int32), rfl, N71, K_72, (Nat.le_trans (Keep.refl h0 []).1 (Nat.le_of_eq g8.symm)), g71_0⟩
theorem d3_297 : decode method_5_code 297 = .ok (.iload_n 1, 1) := by decide +kernel
theorem d3_298 : decode method_5_code 298 = .ok (.bipush 7, 2) := by decide +kernel
theorem d3_300 : decode method_5_code 300 = .ok (.if_icmp .ne 51, 3) := by decide +kernel
theorem d3_303 : decode method_5_code 303 = .ok (.new 8, 3) := by decide +kernel
theorem d3_306 : decode method_5_code 306 = .ok (.dup, 1) := by decide +kernel
theorem d3_307 : decode method_5_code 307 = .ok (.bipush 7, 2) := by decide +kernel
theorem d3_309 : decode method_5_code 309 = .ok (.newarray .char, 2) := by decide +kernel
theorem d3_311 : decode method_5_code 311 = .ok (.dup, 1) := by decide +kernel
theorem d3_312 : decode method_5_code 312 = .ok (.iconst 0, 1) := by decide +kernel
theorem d3_313 : decode method_5_code 313 = .ok (.iload 4, 2) := by decide +kernel
theorem d3_315 : decode method_5_code 315 = .ok (.castore, 1) := by decide +kernel
theorem d3_316 : decode method_5_code 316 = .ok (.dup, 1) := by decide +kernel
theorem d3_317 : decode method_5_code 317 = .ok (.iconst 1, 1) := by decide +kernel
theorem d3_318 : decode method_5_code 318 = .ok (.iload 5, 2) := by decide +kernel
theorem d3_320 : decode method_5_code 320 = .ok (.castore, 1) := by decide +kernel
theorem d3_321 : decode method_5_code 321 = .ok (.dup, 1) := by decide +kernel
theorem d3_322 : decode method_5_code 322 = .ok (.iconst 2, 1) := by decide +kernel
theorem d3_323 : decode method_5_code 323 = .ok (.iload 6, 2) := by decide +kernel
theorem d3_325 : decode method_5_code 325 = .ok (.castore, 1) := by decide +kernel
theorem d3_326 : decode method_5_code 326 = .ok (.dup, 1) := by decide +kernel
theorem d3_327 : decode method_5_code 327 = .ok (.iconst 3, 1) := by decide +kernel
theorem d3_328 : decode method_5_code 328 = .ok (.iload 7, 2) := by decide +kernel
theorem d3_330 : decode method_5_code 330 = .ok (.castore, 1) := by decide +kernel
theorem d3_331 : decode method_5_code 331 = .ok (.dup, 1) := by decide +kernel
theorem d3_332 : decode method_5_code 332 = .ok (.iconst 4, 1) := by decide +kernel
theorem d3_333 : decode method_5_code 333 = .ok (.iload 8, 2) := by decide +kernel
theorem d3_335 : decode method_5_code 335 = .ok (.castore, 1) := by decide +kernel
theorem d3_336 : decode method_5_code 336 = .ok (.dup, 1) := by decide +kernel
theorem d3_337 : decode method_5_code 337 = .ok (.iconst 5, 1) := by decide +kernel
theorem d3_338 : decode method_5_code 338 = .ok (.iload 9, 2) := by decide +kernel
theorem d3_340 : decode method_5_code 340 = .ok (.castore, 1) := by decide +kernel
theorem d3_341 : decode method_5_code 341 = .ok (.dup, 1) := by decide +kernel
theorem d3_342 : decode method_5_code 342 = .ok (.bipush 6, 2) := by decide +kernel
theorem d3_344 : decode method_5_code 344 = .ok (.iload 10, 2) := by decide +kernel
theorem d3_346 : decode method_5_code 346 = .ok (.castore, 1) := by decide +kernel
theorem d3_347 : decode method_5_code 347 = .ok (.invokespecial 10, 3) := by decide +kernel
theorem d3_350 : decode method_5_code 350 = .ok (.areturn, 1) := by decide +kernel
def Q3n7 (Z : State) (cs_a0 : List Int32) (w_COMPACT_STRINGS : Int32) (w_SIOOBE_FORMATTER : Value) (a0 : Addr) (p2 : Int32) (p3 : Int32) (h0 : Heap) (n0 : Nat) (v : Option Value) (h : Heap) (L : List Loc) : Prop := ∃ b8 : Addr, ∃ cs_out : List Int32, v = some (.ref b8) ∧ Fr n0 L ∧ Keep h0 h [] ∧ h0.size ≤ b8 ∧ own_Txt Z h b8 cs_out
set_option maxRecDepth 65536 in
set_option maxHeartbeats 40000000 in
theorem rm3n7 (l : Launch) (Z : State) (A0 : Array Value) (hw : ∀ d ∈ tables_1, d.before A0 Z = true) (ws : List Jvm.Cond) (cs_a0 : List Int32) (w_COMPACT_STRINGS : Int32) (w_SIOOBE_FORMATTER : Value) (a0 : Addr) (p2 : Int32) (p3 : Int32) (h0 : Heap) (n0 : Nat) (OLD : Old Z n0 h0) (f_1 : own_Txt Z h0 a0 cs_a0) (c_2 : own_B p3) (f_3 : Sta Z Z.heap "java/lang/String" "COMPACT_STRINGS" "Z" (.int w_COMPACT_STRINGS)) (c_4 : ¬ (w_COMPACT_STRINGS = (0 : Int32))) (f_5 : Sta Z Z.heap "jdk/internal/util/Preconditions" "SIOOBE_FORMATTER" "Ljava/util/function/BiFunction;" w_SIOOBE_FORMATTER) (c_6 : w_SIOOBE_FORMATTER.isRef = true) :
    MetFree l (⟨"com/example/seshat/seshat/jpql/DatabaseNamedPinLaw", "word", "(Ljava/lang/String;IIC)Ljava/lang/String;"⟩ : MethodName) (head1 (Jvm.Cond.code (⟨"com/example/seshat/seshat/jpql/DatabaseNamedPinLaw", "word", "(Ljava/lang/String;IIC)Ljava/lang/String;"⟩ : MethodName) method_5_code 15 (some (.object "java/lang/String")) :: ws) ({ frames := 6, cells := 3, slots := 40, locals := 120 } : Room)) (fun a U => a = #[(.ref a0), (.int (7 : Int32)), (.int p2), (.int p3)] ∧ Z.Warmed39 U.vm ∧ U.heap = h0) (fun _ _ _ _ _ => True) (fun _ U o U' => ∃ v L, o = .returned v ∧ Q3n7 Z cs_a0 w_COMPACT_STRINGS w_SIOOBE_FORMATTER a0 p2 p3 h0 n0 v U'.heap L ∧ FrameEnd U o U' L ({ frames := 6, cells := 3, slots := 40, locals := 120 } : Room).cells ({ frames := 6, cells := 3, slots := 40, locals := 120 } : Room).slots) := by
  refine MetFree.of_bodySF (plainFor_of_name pn_com_example_seshat_seshat_jpql_DatabaseNamedPinLaw) hisR ?_
  intro p e s m args below meth c s₁ Bd hml0 hP hK
  obtain ⟨rfl, hZ, hh⟩ := hP
  have hx := Bd.exec
  have hby := Bd.bytes
  have hml : c.maxLocals = 15 := hml0
  have hown : s.vm.findClass "com/example/seshat/seshat/jpql/DatabaseNamedPinLaw" = some m.cls := findClass_of_methodNamed Bd.named
  have hnm := (name_of_methodNamed Bd.named Bd.method).1
  have X0 : Stand p l e ({ frames := 6, cells := 3, slots := 40, locals := 120 } : Room) s m #[(.ref a0), (.int (7 : Int32)), (.int p2), (.int p3)] below meth c s₁ [] 0 0 := Stand.of_body Bd
  have e0 : s₁.heap = h0 := by rw [← hh, Bd.state]; rfl
  have N0 := Fr.nil n0
  have pre0 : ∀ t, Steps p.tables e below (s₁.setTop (mkF m 0 #[vR a0, vI (7 : Int32), vI p2, vI p3, .unset, .unset, .unset, .unset, .unset, .unset, .unset, .unset, .unset, .unset, .unset] [])) t → Steps p.tables e below (s₁.setTop (entryFrame m #[(.ref a0), (.int (7 : Int32)), (.int p2), (.int p3)] 15)) t := fun t k => castTop (ef_3 m a0 (7 : Int32) p2 p3) k
  obtain ⟨w_7_7, w_8_7, w_9_7, w_10_7, w_11_7, w_12_7, w_13_7, w_14_7, w_15_7, w_16_7, w_17_7, T7, L7, X7, N7, e7, g7_0, g7_1, g7_2, g7_3, g7_4, g7_5, g7_6, g7_7, g7_8, g7_9, g7_10, st7⟩ := rm3s l Z A0 hw cs_a0 w_COMPACT_STRINGS w_SIOOBE_FORMATTER a0 (7 : Int32) p2 p3 h0 n0 OLD f_1 c_2 f_3 c_4 f_5 c_6 X0 hx hZ hby hml hown hh e0
  obtain ⟨T8, h8, X8, e8, E8, A8, D8, M8, st8⟩ := newO X7 hx hZ hown (hw _ (List.mem_of_getElem? (i := 106) rfl)) (hw _ (List.mem_of_getElem? (i := 3) rfl)) (hw _ (List.mem_of_getElem? (i := 2) rfl)) e7 (g := (mkF m 303 #[vR a0, vI (7 : Int32), vI p2, vI p3, vI w_7_7, vI w_8_7, vI w_9_7, vI w_10_7, vI w_11_7, vI w_12_7, vI w_13_7, vI w_14_7, vI w_15_7, vI w_16_7, vI w_17_7] [])) rfl (hb hby d3_303) (by decide) (by decide)
  obtain ⟨b8, g8⟩ : ∃ z, z = h0.size := ⟨_, rfl⟩
  rw [← g8] at A8 D8 M8 st8
  have K_9 : Keep h0 h8 [] := (Keep.refl h0 []).ext E8
  have f_10 : Fld Z h8 b8 "java/lang/String" "value" "[B" .null := (D8 (Or.inr (hw _ (List.mem_of_getElem? (i := 5) rfl))) (ty := (.array .byte)) (by decide))
  have f_11 : Fld Z h8 b8 "java/lang/String" "coder" "B" (.int (0 : Int32)) := (D8 (Or.inr (hw _ (List.mem_of_getElem? (i := 6) rfl))) (ty := .byte) (by decide))
  obtain ⟨T12, h12, k12, X12, e12, E12, A12, st12⟩ := newP X8 hx hZ (hw _ (List.mem_of_getElem? (i := 107) rfl)) e8 (g := (mkF m 309 #[vR a0, vI (7 : Int32), vI p2, vI p3, vI w_7_7, vI w_8_7, vI w_9_7, vI w_10_7, vI w_11_7, vI w_12_7, vI w_13_7, vI w_14_7, vI w_15_7, vI w_16_7, vI w_17_7] [(.int (7 : Int32)), (.ref b8), (.ref b8)])) rfl (hb hby d3_309) rfl (by decide) (cap := 7) (by decide) (by decide) (by decide) (by decide)
  obtain ⟨b12, g12⟩ : ∃ z, z = h8.size := ⟨_, rfl⟩
  rw [← g12] at A12 st12
  have K_13 : Keep h0 h12 [] := K_9.ext E12
  have f_14 : Arv Z h12 b12 k12 .char (7 : Int32) [(.int (0 : Int32)), (.int (0 : Int32)), (.int (0 : Int32)), (.int (0 : Int32)), (.int (0 : Int32)), (.int (0 : Int32)), (.int (0 : Int32))] (.int (0 : Int32)) := (Arv.new A12 (by decide)).pad (pad_rep [] (.int (0 : Int32)) 7)
  obtain ⟨cl15, Ar15, q15, s15, n15, hh15, gg15⟩ := id (f_14)
  have hin15 : ¬ ((0 : Int32) < 0 ∨ cl15.slots.size ≤ ((0 : Int32)).toNatClampNeg) := inb_of s15 ⟨by decide, by decide⟩
  obtain ⟨T16, h16, X16, e16, W16, st16⟩ := stC X12 hx hZ e12 Ar15 (j := (0 : Int32)) hin15 (g := (mkF m 315 #[vR a0, vI (7 : Int32), vI p2, vI p3, vI w_7_7, vI w_8_7, vI w_9_7, vI w_10_7, vI w_11_7, vI w_12_7, vI w_13_7, vI w_14_7, vI w_15_7, vI w_16_7, vI w_17_7] [(.int w_7_7), (.int (0 : Int32)), (.ref b12), (.ref b12), (.ref b8), (.ref b8)])) rfl rfl (hb hby d3_315)
  have O_17 := Old.ext OLD E8
  have ge_18 : n0 ≤ b12 := own_ge O_17 (Nat.le_of_eq g12.symm)
  have N16 := Fr.snoc X16 N7 ge_18
  have f_19 : Arv Z h16 b12 k12 .char (7 : Int32) [(.int (nar .char w_7_7)), (.int (0 : Int32)), (.int (0 : Int32)), (.int (0 : Int32)), (.int (0 : Int32)), (.int (0 : Int32)), (.int (0 : Int32))] (.int (0 : Int32)) := Arv.set Ar15 q15 s15 n15 hh15 gg15 (fits_nar_char _) W16 0 rfl (Nat.le_of_ble_eq_true rfl)
  have K_20 : Keep h0 h16 [] := K_13.wr W16 (Or.inr (Nat.le_trans K_9.1 (Nat.le_of_eq g12.symm)))
  obtain ⟨cl21, Ar21, q21, s21, n21, hh21, gg21⟩ := id (f_19)
  have hin21 : ¬ ((1 : Int32) < 0 ∨ cl21.slots.size ≤ ((1 : Int32)).toNatClampNeg) := inb_of s21 ⟨by decide, by decide⟩
  obtain ⟨T22, h22, X22, e22, W22, st22⟩ := stC X16 hx hZ e16 Ar21 (j := (1 : Int32)) hin21 (g := (mkF m 320 #[vR a0, vI (7 : Int32), vI p2, vI p3, vI w_7_7, vI w_8_7, vI w_9_7, vI w_10_7, vI w_11_7, vI w_12_7, vI w_13_7, vI w_14_7, vI w_15_7, vI w_16_7, vI w_17_7] [(.int w_8_7), (.int (1 : Int32)), (.ref b12), (.ref b12), (.ref b8), (.ref b8)])) rfl rfl (hb hby d3_320)
  have N22 := Fr.snoc X22 N16 ge_18
  have f_23 : Arv Z h22 b12 k12 .char (7 : Int32) [(.int (nar .char w_7_7)), (.int (nar .char w_8_7)), (.int (0 : Int32)), (.int (0 : Int32)), (.int (0 : Int32)), (.int (0 : Int32)), (.int (0 : Int32))] (.int (0 : Int32)) := Arv.set Ar21 q21 s21 n21 hh21 gg21 (fits_nar_char _) W22 1 rfl (Nat.le_of_ble_eq_true rfl)
  have K_24 : Keep h0 h22 [] := K_20.wr W22 (Or.inr (Nat.le_trans K_9.1 (Nat.le_of_eq g12.symm)))
  obtain ⟨cl25, Ar25, q25, s25, n25, hh25, gg25⟩ := id (f_23)
  have hin25 : ¬ ((2 : Int32) < 0 ∨ cl25.slots.size ≤ ((2 : Int32)).toNatClampNeg) := inb_of s25 ⟨by decide, by decide⟩
  obtain ⟨T26, h26, X26, e26, W26, st26⟩ := stC X22 hx hZ e22 Ar25 (j := (2 : Int32)) hin25 (g := (mkF m 325 #[vR a0, vI (7 : Int32), vI p2, vI p3, vI w_7_7, vI w_8_7, vI w_9_7, vI w_10_7, vI w_11_7, vI w_12_7, vI w_13_7, vI w_14_7, vI w_15_7, vI w_16_7, vI w_17_7] [(.int w_9_7), (.int (2 : Int32)), (.ref b12), (.ref b12), (.ref b8), (.ref b8)])) rfl rfl (hb hby d3_325)
  have N26 := Fr.snoc X26 N22 ge_18
  have f_27 : Arv Z h26 b12 k12 .char (7 : Int32) [(.int (nar .char w_7_7)), (.int (nar .char w_8_7)), (.int (nar .char w_9_7)), (.int (0 : Int32)), (.int (0 : Int32)), (.int (0 : Int32)), (.int (0 : Int32))] (.int (0 : Int32)) := Arv.set Ar25 q25 s25 n25 hh25 gg25 (fits_nar_char _) W26 2 rfl (Nat.le_of_ble_eq_true rfl)
  have K_28 : Keep h0 h26 [] := K_24.wr W26 (Or.inr (Nat.le_trans K_9.1 (Nat.le_of_eq g12.symm)))
  obtain ⟨cl29, Ar29, q29, s29, n29, hh29, gg29⟩ := id (f_27)
  have hin29 : ¬ ((3 : Int32) < 0 ∨ cl29.slots.size ≤ ((3 : Int32)).toNatClampNeg) := inb_of s29 ⟨by decide, by decide⟩
  obtain ⟨T30, h30, X30, e30, W30, st30⟩ := stC X26 hx hZ e26 Ar29 (j := (3 : Int32)) hin29 (g := (mkF m 330 #[vR a0, vI (7 : Int32), vI p2, vI p3, vI w_7_7, vI w_8_7, vI w_9_7, vI w_10_7, vI w_11_7, vI w_12_7, vI w_13_7, vI w_14_7, vI w_15_7, vI w_16_7, vI w_17_7] [(.int w_10_7), (.int (3 : Int32)), (.ref b12), (.ref b12), (.ref b8), (.ref b8)])) rfl rfl (hb hby d3_330)
  have N30 := Fr.snoc X30 N26 ge_18
  have f_31 : Arv Z h30 b12 k12 .char (7 : Int32) [(.int (nar .char w_7_7)), (.int (nar .char w_8_7)), (.int (nar .char w_9_7)), (.int (nar .char w_10_7)), (.int (0 : Int32)), (.int (0 : Int32)), (.int (0 : Int32))] (.int (0 : Int32)) := Arv.set Ar29 q29 s29 n29 hh29 gg29 (fits_nar_char _) W30 3 rfl (Nat.le_of_ble_eq_true rfl)
  have K_32 : Keep h0 h30 [] := K_28.wr W30 (Or.inr (Nat.le_trans K_9.1 (Nat.le_of_eq g12.symm)))
  obtain ⟨cl33, Ar33, q33, s33, n33, hh33, gg33⟩ := id (f_31)
  have hin33 : ¬ ((4 : Int32) < 0 ∨ cl33.slots.size ≤ ((4 : Int32)).toNatClampNeg) := inb_of s33 ⟨by decide, by decide⟩
  obtain ⟨T34, h34, X34, e34, W34, st34⟩ := stC X30 hx hZ e30 Ar33 (j := (4 : Int32)) hin33 (g := (mkF m 335 #[vR a0, vI (7 : Int32), vI p2, vI p3, vI w_7_7, vI w_8_7, vI w_9_7, vI w_10_7, vI w_11_7, vI w_12_7, vI w_13_7, vI w_14_7, vI w_15_7, vI w_16_7, vI w_17_7] [(.int w_11_7), (.int (4 : Int32)), (.ref b12), (.ref b12), (.ref b8), (.ref b8)])) rfl rfl (hb hby d3_335)
  have N34 := Fr.snoc X34 N30 ge_18
  have f_35 : Arv Z h34 b12 k12 .char (7 : Int32) [(.int (nar .char w_7_7)), (.int (nar .char w_8_7)), (.int (nar .char w_9_7)), (.int (nar .char w_10_7)), (.int (nar .char w_11_7)), (.int (0 : Int32)), (.int (0 : Int32))] (.int (0 : Int32)) := Arv.set Ar33 q33 s33 n33 hh33 gg33 (fits_nar_char _) W34 4 rfl (Nat.le_of_ble_eq_true rfl)
  have K_36 : Keep h0 h34 [] := K_32.wr W34 (Or.inr (Nat.le_trans K_9.1 (Nat.le_of_eq g12.symm)))
  obtain ⟨cl37, Ar37, q37, s37, n37, hh37, gg37⟩ := id (f_35)
  have hin37 : ¬ ((5 : Int32) < 0 ∨ cl37.slots.size ≤ ((5 : Int32)).toNatClampNeg) := inb_of s37 ⟨by decide, by decide⟩
  obtain ⟨T38, h38, X38, e38, W38, st38⟩ := stC X34 hx hZ e34 Ar37 (j := (5 : Int32)) hin37 (g := (mkF m 340 #[vR a0, vI (7 : Int32), vI p2, vI p3, vI w_7_7, vI w_8_7, vI w_9_7, vI w_10_7, vI w_11_7, vI w_12_7, vI w_13_7, vI w_14_7, vI w_15_7, vI w_16_7, vI w_17_7] [(.int w_12_7), (.int (5 : Int32)), (.ref b12), (.ref b12), (.ref b8), (.ref b8)])) rfl rfl (hb hby d3_340)
  have N38 := Fr.snoc X38 N34 ge_18
  have f_39 : Arv Z h38 b12 k12 .char (7 : Int32) [(.int (nar .char w_7_7)), (.int (nar .char w_8_7)), (.int (nar .char w_9_7)), (.int (nar .char w_10_7)), (.int (nar .char w_11_7)), (.int (nar .char w_12_7)), (.int (0 : Int32))] (.int (0 : Int32)) := Arv.set Ar37 q37 s37 n37 hh37 gg37 (fits_nar_char _) W38 5 rfl (Nat.le_of_ble_eq_true rfl)
  have K_40 : Keep h0 h38 [] := K_36.wr W38 (Or.inr (Nat.le_trans K_9.1 (Nat.le_of_eq g12.symm)))
  obtain ⟨cl41, Ar41, q41, s41, n41, hh41, gg41⟩ := id (f_39)
  have hin41 : ¬ ((6 : Int32) < 0 ∨ cl41.slots.size ≤ ((6 : Int32)).toNatClampNeg) := inb_of s41 ⟨by decide, by decide⟩
  obtain ⟨T42, h42, X42, e42, W42, st42⟩ := stC X38 hx hZ e38 Ar41 (j := (6 : Int32)) hin41 (g := (mkF m 346 #[vR a0, vI (7 : Int32), vI p2, vI p3, vI w_7_7, vI w_8_7, vI w_9_7, vI w_10_7, vI w_11_7, vI w_12_7, vI w_13_7, vI w_14_7, vI w_15_7, vI w_16_7, vI w_17_7] [(.int w_13_7), (.int (6 : Int32)), (.ref b12), (.ref b12), (.ref b8), (.ref b8)])) rfl rfl (hb hby d3_346)
  have N42 := Fr.snoc X42 N38 ge_18
  have f_43 : Arv Z h42 b12 k12 .char (7 : Int32) [(.int (nar .char w_7_7)), (.int (nar .char w_8_7)), (.int (nar .char w_9_7)), (.int (nar .char w_10_7)), (.int (nar .char w_11_7)), (.int (nar .char w_12_7)), (.int (nar .char w_13_7))] (.int (0 : Int32)) := Arv.set Ar41 q41 s41 n41 hh41 gg41 (fits_nar_char _) W42 6 rfl (Nat.le_of_ble_eq_true rfl)
  have K_44 : Keep h0 h42 [] := K_40.wr W42 (Or.inr (Nat.le_trans K_9.1 (Nat.le_of_eq g12.symm)))
  have O_45 := Old.ext O_17 E12
  have O_46 := Old.wr O_45 W16 ge_18
  have O_47 := Old.wr O_46 W22 ge_18
  have O_48 := Old.wr O_47 W26 ge_18
  have O_49 := Old.wr O_48 W30 ge_18
  have O_50 := Old.wr O_49 W34 ge_18
  have O_51 := Old.wr O_50 W38 ge_18
  have O_52 := Old.wr O_51 W42 ge_18
  have ge_53 : n0 ≤ b8 := own_ge OLD (Nat.le_of_eq g8.symm)
  have f_54 := A8.ext E12
  have f_55 := f_54.wr W16
  have f_56 := f_55.wr W22
  have f_57 := f_56.wr W26
  have f_58 := f_57.wr W30
  have f_59 := f_58.wr W34
  have f_60 := f_59.wr W38
  have f_61 := f_60.wr W42
  have f_62 := f_10.ext E12
  have ne_63 : b8 ≠ b12 := Nat.ne_of_lt (Nat.lt_of_lt_of_le A8.lt (Nat.le_of_eq g12.symm))
  have f_64 := f_62.other W16 (Or.inl ne_63)
  have f_65 := f_64.other W22 (Or.inl ne_63)
  have f_66 := f_65.other W26 (Or.inl ne_63)
  have f_67 := f_66.other W30 (Or.inl ne_63)
  have f_68 := f_67.other W34 (Or.inl ne_63)
  have f_69 := f_68.other W38 (Or.inl ne_63)
  have f_70 := f_69.other W42 (Or.inl ne_63)
  have f_71 := f_11.ext E12
  have f_72 := f_71.other W16 (Or.inl ne_63)
  have f_73 := f_72.other W22 (Or.inl ne_63)
  have f_74 := f_73.other W26 (Or.inl ne_63)
  have f_75 := f_74.other W30 (Or.inl ne_63)
  have f_76 := f_75.other W34 (Or.inl ne_63)
  have f_77 := f_76.other W38 (Or.inl ne_63)
  have f_78 := f_77.other W42 (Or.inl ne_63)
  obtain ⟨_, _, ⟨T79, L79, k79, n79⟩, -, X79, ⟨Lc79, hQ79, l79, y79, z79⟩, st79⟩ := X42.specialBack hx (y := (⟨"java/lang/String", "<init>", "([C)V"⟩ : MethodName)) rfl hown (mvT hZ (hw _ (List.mem_of_getElem? (i := 108) rfl))) (mvT hZ (hw _ (List.mem_of_getElem? (i := 109) rfl))) (mvT hZ (hw _ (List.mem_of_getElem? (i := 110) rfl))) (by decide) (own_newB (W := 1) (n := 7) (cs := ([(nar .char w_7_7), (nar .char w_8_7), (nar .char w_9_7), (nar .char w_10_7), (nar .char w_11_7), (nar .char w_12_7), (nar .char w_13_7)] : List Int32)) hZ hw O_52 f_3 c_4 ge_53 f_61 f_70 f_78 f_43 rfl (by decide) (by decide) (own_cS (own_bn g7_0) (own_cS (own_bn g7_1) (own_cS (own_bn g7_2) (own_cS (own_bn g7_3) (own_cS (own_bn g7_4) (own_cS (own_bn g7_5) (own_cS (own_bn g7_6) own_c0))))))) (by decide) (by decide)) (g := (mkF m 347 #[vR a0, vI (7 : Int32), vI p2, vI p3, vI w_7_7, vI w_8_7, vI w_9_7, vI w_10_7, vI w_11_7, vI w_12_7, vI w_13_7, vI w_14_7, vI w_15_7, vI w_16_7, vI w_17_7] [(.ref b12), (.ref b8), (.ref b8)])) rfl (by rw [hml]; rfl) (Steps.refl _) (a := b8) (argsL := [(.ref b12)]) (rest := [(.ref b8)]) (lenOf pd_7 rfl) rfl (by show 2 * 0 + _ ≤ _; exact Nat.le_of_eq rfl) (hb hby d3_347) (fun _ _ => ⟨rfl, e42, (by decide : 2 + 1 ≤ _), (by decide : 11 + 7 ≤ _)⟩)
  dsimp only [Pt.U, Pt.locs, Pt.cells, Pt.slots] at X79 l79 y79 z79 st79 hQ79
  subst l79 y79 z79
  obtain ⟨rfl, N79q, K79, g79_0⟩ := hQ79
  have N79 := Fr.app N42 N79q
  have K_80 : Keep h0 T79.heap [] := Keep.trans K_44 K79 (allS (Or.inr (Nat.le_trans (Keep.refl h0 []).1 (Nat.le_of_eq g8.symm))) all0)
  have f_81 := f_61.keep K79
  obtain ⟨fs, hr, hrun, hended, hW, hsame⟩ := X79.leave (v := some (.ref b8)) (fun h => by rw [Bd.returns] at h; cases h)
  refine ⟨_, _, pre0 _ ?_, hrun, hended, _, _, rfl, ?_, ⟨_, rfl⟩, hW, hsame.mono (by decide) (by decide)⟩
  · show Steps p.tables e below (s₁.setTop (mkF m 0 #[vR a0, vI (7 : Int32), vI p2, vI p3, .unset, .unset, .unset, .unset, .unset, .unset, .unset, .unset, .unset, .unset, .unset] [])) _
    refine st7 _ ?_
    show Steps p.tables e below (T7.setTop (mkF m 104 #[vR a0, vI (7 : Int32), vI p2, vI p3, vI w_7_7, vI w_8_7, vI w_9_7, vI w_10_7, vI w_11_7, vI w_12_7, vI w_13_7, vI w_14_7, vI w_15_7, vI w_16_7, vI w_17_7] [])) _
    refine XS.iloadN X7.here hx rfl (hb hby d3_104) rfl ?_
    refine XS.iconst X7.here hx rfl (hb hby d3_105) ?_
    show Steps p.tables e below (T7.setTop (mkF m 106 #[vR a0, vI (7 : Int32), vI p2, vI p3, vI w_7_7, vI w_8_7, vI w_9_7, vI w_10_7, vI w_11_7, vI w_12_7, vI w_13_7, vI w_14_7, vI w_15_7, vI w_16_7, vI w_17_7] [(.int (1 : Int32)), (.int (7 : Int32))])) _
    refine XS.icmpYes X7.here hx rfl (pc0 := 106) (pc' := 115) rfl (hb hby d3_106) rfl (feq (by decide : ¬ ((7 : Int32) = (1 : Int32)))).2 (by decide) (by decide) ?_
    refine XS.iloadN X7.here hx rfl (hb hby d3_115) rfl ?_
    show Steps p.tables e below (T7.setTop (mkF m 116 #[vR a0, vI (7 : Int32), vI p2, vI p3, vI w_7_7, vI w_8_7, vI w_9_7, vI w_10_7, vI w_11_7, vI w_12_7, vI w_13_7, vI w_14_7, vI w_15_7, vI w_16_7, vI w_17_7] [(.int (7 : Int32))])) _
    refine XS.iconst X7.here hx rfl (hb hby d3_116) ?_
    refine XS.icmpYes X7.here hx rfl (pc0 := 117) (pc' := 141) rfl (hb hby d3_117) rfl (feq (by decide : ¬ ((7 : Int32) = (2 : Int32)))).2 (by decide) (by decide) ?_
    show Steps p.tables e below (T7.setTop (mkF m 141 #[vR a0, vI (7 : Int32), vI p2, vI p3, vI w_7_7, vI w_8_7, vI w_9_7, vI w_10_7, vI w_11_7, vI w_12_7, vI w_13_7, vI w_14_7, vI w_15_7, vI w_16_7, vI w_17_7] [])) _
    refine XS.iloadN X7.here hx rfl (hb hby d3_141) rfl ?_
    refine XS.iconst X7.here hx rfl (hb hby d3_142) ?_
    show Steps p.tables e below (T7.setTop (mkF m 143 #[vR a0, vI (7 : Int32), vI p2, vI p3, vI w_7_7, vI w_8_7, vI w_9_7, vI w_10_7, vI w_11_7, vI w_12_7, vI w_13_7, vI w_14_7, vI w_15_7, vI w_16_7, vI w_17_7] [(.int (3 : Int32)), (.int (7 : Int32))])) _
    refine XS.icmpYes X7.here hx rfl (pc0 := 143) (pc' := 172) rfl (hb hby d3_143) rfl (feq (by decide : ¬ ((7 : Int32) = (3 : Int32)))).2 (by decide) (by decide) ?_
    refine XS.iloadN X7.here hx rfl (hb hby d3_172) rfl ?_
    show Steps p.tables e below (T7.setTop (mkF m 173 #[vR a0, vI (7 : Int32), vI p2, vI p3, vI w_7_7, vI w_8_7, vI w_9_7, vI w_10_7, vI w_11_7, vI w_12_7, vI w_13_7, vI w_14_7, vI w_15_7, vI w_16_7, vI w_17_7] [(.int (7 : Int32))])) _
    refine XS.iconst X7.here hx rfl (hb hby d3_173) ?_
    refine XS.icmpYes X7.here hx rfl (pc0 := 174) (pc' := 208) rfl (hb hby d3_174) rfl (feq (by decide : ¬ ((7 : Int32) = (4 : Int32)))).2 (by decide) (by decide) ?_
    show Steps p.tables e below (T7.setTop (mkF m 208 #[vR a0, vI (7 : Int32), vI p2, vI p3, vI w_7_7, vI w_8_7, vI w_9_7, vI w_10_7, vI w_11_7, vI w_12_7, vI w_13_7, vI w_14_7, vI w_15_7, vI w_16_7, vI w_17_7] [])) _
    refine XS.iloadN X7.here hx rfl (hb hby d3_208) rfl ?_
    refine XS.iconst X7.here hx rfl (hb hby d3_209) ?_
    show Steps p.tables e below (T7.setTop (mkF m 210 #[vR a0, vI (7 : Int32), vI p2, vI p3, vI w_7_7, vI w_8_7, vI w_9_7, vI w_10_7, vI w_11_7, vI w_12_7, vI w_13_7, vI w_14_7, vI w_15_7, vI w_16_7, vI w_17_7] [(.int (5 : Int32)), (.int (7 : Int32))])) _
    refine XS.icmpYes X7.here hx rfl (pc0 := 210) (pc' := 249) rfl (hb hby d3_210) rfl (feq (by decide : ¬ ((7 : Int32) = (5 : Int32)))).2 (by decide) (by decide) ?_
    refine XS.iloadN X7.here hx rfl (hb hby d3_249) rfl ?_
    show Steps p.tables e below (T7.setTop (mkF m 250 #[vR a0, vI (7 : Int32), vI p2, vI p3, vI w_7_7, vI w_8_7, vI w_9_7, vI w_10_7, vI w_11_7, vI w_12_7, vI w_13_7, vI w_14_7, vI w_15_7, vI w_16_7, vI w_17_7] [(.int (7 : Int32))])) _
    refine XS.bipush X7.here hx rfl (hb hby d3_250) ?_
    refine XS.icmpYes X7.here hx rfl (pc0 := 252) (pc' := 297) rfl (hb hby d3_252) rfl (feq (by decide : ¬ ((7 : Int32) = (6 : Int32)))).2 (by decide) (by decide) ?_
    show Steps p.tables e below (T7.setTop (mkF m 297 #[vR a0, vI (7 : Int32), vI p2, vI p3, vI w_7_7, vI w_8_7, vI w_9_7, vI w_10_7, vI w_11_7, vI w_12_7, vI w_13_7, vI w_14_7, vI w_15_7, vI w_16_7, vI w_17_7] [])) _
    refine XS.iloadN X7.here hx rfl (hb hby d3_297) rfl ?_
    refine XS.bipush X7.here hx rfl (hb hby d3_298) ?_
    show Steps p.tables e below (T7.setTop (mkF m 300 #[vR a0, vI (7 : Int32), vI p2, vI p3, vI w_7_7, vI w_8_7, vI w_9_7, vI w_10_7, vI w_11_7, vI w_12_7, vI w_13_7, vI w_14_7, vI w_15_7, vI w_16_7, vI w_17_7] [(.int (7 : Int32)), (.int (7 : Int32))])) _
    refine XS.icmpNo X7.here hx rfl (hb hby d3_300) rfl (teq (by decide : (7 : Int32) = (7 : Int32))).2 ?_
    refine st8 _ ?_
    show Steps p.tables e below (T8.setTop (mkF m 306 #[vR a0, vI (7 : Int32), vI p2, vI p3, vI w_7_7, vI w_8_7, vI w_9_7, vI w_10_7, vI w_11_7, vI w_12_7, vI w_13_7, vI w_14_7, vI w_15_7, vI w_16_7, vI w_17_7] [(.ref b8)])) _
    refine XS.dup X8.here hx rfl (hb hby d3_306) rfl rfl ?_
    refine XS.bipush X8.here hx rfl (hb hby d3_307) ?_
    show Steps p.tables e below (T8.setTop (mkF m 309 #[vR a0, vI (7 : Int32), vI p2, vI p3, vI w_7_7, vI w_8_7, vI w_9_7, vI w_10_7, vI w_11_7, vI w_12_7, vI w_13_7, vI w_14_7, vI w_15_7, vI w_16_7, vI w_17_7] [(.int (7 : Int32)), (.ref b8), (.ref b8)])) _
    refine st12 _ ?_
    refine XS.dup X12.here hx rfl (hb hby d3_311) rfl rfl ?_
    show Steps p.tables e below (T12.setTop (mkF m 312 #[vR a0, vI (7 : Int32), vI p2, vI p3, vI w_7_7, vI w_8_7, vI w_9_7, vI w_10_7, vI w_11_7, vI w_12_7, vI w_13_7, vI w_14_7, vI w_15_7, vI w_16_7, vI w_17_7] [(.ref b12), (.ref b12), (.ref b8), (.ref b8)])) _
    refine XS.iconst X12.here hx rfl (hb hby d3_312) ?_
    refine XS.iload X12.here hx rfl (hb hby d3_313) rfl ?_
    show Steps p.tables e below (T12.setTop (mkF m 315 #[vR a0, vI (7 : Int32), vI p2, vI p3, vI w_7_7, vI w_8_7, vI w_9_7, vI w_10_7, vI w_11_7, vI w_12_7, vI w_13_7, vI w_14_7, vI w_15_7, vI w_16_7, vI w_17_7] [(.int w_7_7), (.int (0 : Int32)), (.ref b12), (.ref b12), (.ref b8), (.ref b8)])) _
    refine st16 _ ?_
    refine XS.dup X16.here hx rfl (hb hby d3_316) rfl rfl ?_
    show Steps p.tables e below (T16.setTop (mkF m 317 #[vR a0, vI (7 : Int32), vI p2, vI p3, vI w_7_7, vI w_8_7, vI w_9_7, vI w_10_7, vI w_11_7, vI w_12_7, vI w_13_7, vI w_14_7, vI w_15_7, vI w_16_7, vI w_17_7] [(.ref b12), (.ref b12), (.ref b8), (.ref b8)])) _
    refine XS.iconst X16.here hx rfl (hb hby d3_317) ?_
    refine XS.iload X16.here hx rfl (hb hby d3_318) rfl ?_
    show Steps p.tables e below (T16.setTop (mkF m 320 #[vR a0, vI (7 : Int32), vI p2, vI p3, vI w_7_7, vI w_8_7, vI w_9_7, vI w_10_7, vI w_11_7, vI w_12_7, vI w_13_7, vI w_14_7, vI w_15_7, vI w_16_7, vI w_17_7] [(.int w_8_7), (.int (1 : Int32)), (.ref b12), (.ref b12), (.ref b8), (.ref b8)])) _
    refine st22 _ ?_
    refine XS.dup X22.here hx rfl (hb hby d3_321) rfl rfl ?_
    show Steps p.tables e below (T22.setTop (mkF m 322 #[vR a0, vI (7 : Int32), vI p2, vI p3, vI w_7_7, vI w_8_7, vI w_9_7, vI w_10_7, vI w_11_7, vI w_12_7, vI w_13_7, vI w_14_7, vI w_15_7, vI w_16_7, vI w_17_7] [(.ref b12), (.ref b12), (.ref b8), (.ref b8)])) _
    refine XS.iconst X22.here hx rfl (hb hby d3_322) ?_
    refine XS.iload X22.here hx rfl (hb hby d3_323) rfl ?_
    show Steps p.tables e below (T22.setTop (mkF m 325 #[vR a0, vI (7 : Int32), vI p2, vI p3, vI w_7_7, vI w_8_7, vI w_9_7, vI w_10_7, vI w_11_7, vI w_12_7, vI w_13_7, vI w_14_7, vI w_15_7, vI w_16_7, vI w_17_7] [(.int w_9_7), (.int (2 : Int32)), (.ref b12), (.ref b12), (.ref b8), (.ref b8)])) _
    refine st26 _ ?_
    refine XS.dup X26.here hx rfl (hb hby d3_326) rfl rfl ?_
    show Steps p.tables e below (T26.setTop (mkF m 327 #[vR a0, vI (7 : Int32), vI p2, vI p3, vI w_7_7, vI w_8_7, vI w_9_7, vI w_10_7, vI w_11_7, vI w_12_7, vI w_13_7, vI w_14_7, vI w_15_7, vI w_16_7, vI w_17_7] [(.ref b12), (.ref b12), (.ref b8), (.ref b8)])) _
    refine XS.iconst X26.here hx rfl (hb hby d3_327) ?_
    refine XS.iload X26.here hx rfl (hb hby d3_328) rfl ?_
    show Steps p.tables e below (T26.setTop (mkF m 330 #[vR a0, vI (7 : Int32), vI p2, vI p3, vI w_7_7, vI w_8_7, vI w_9_7, vI w_10_7, vI w_11_7, vI w_12_7, vI w_13_7, vI w_14_7, vI w_15_7, vI w_16_7, vI w_17_7] [(.int w_10_7), (.int (3 : Int32)), (.ref b12), (.ref b12), (.ref b8), (.ref b8)])) _
    refine st30 _ ?_
    refine XS.dup X30.here hx rfl (hb hby d3_331) rfl rfl ?_
    show Steps p.tables e below (T30.setTop (mkF m 332 #[vR a0, vI (7 : Int32), vI p2, vI p3, vI w_7_7, vI w_8_7, vI w_9_7, vI w_10_7, vI w_11_7, vI w_12_7, vI w_13_7, vI w_14_7, vI w_15_7, vI w_16_7, vI w_17_7] [(.ref b12), (.ref b12), (.ref b8), (.ref b8)])) _
    refine XS.iconst X30.here hx rfl (hb hby d3_332) ?_
    refine XS.iload X30.here hx rfl (hb hby d3_333) rfl ?_
    show Steps p.tables e below (T30.setTop (mkF m 335 #[vR a0, vI (7 : Int32), vI p2, vI p3, vI w_7_7, vI w_8_7, vI w_9_7, vI w_10_7, vI w_11_7, vI w_12_7, vI w_13_7, vI w_14_7, vI w_15_7, vI w_16_7, vI w_17_7] [(.int w_11_7), (.int (4 : Int32)), (.ref b12), (.ref b12), (.ref b8), (.ref b8)])) _
    refine st34 _ ?_
    refine XS.dup X34.here hx rfl (hb hby d3_336) rfl rfl ?_
    show Steps p.tables e below (T34.setTop (mkF m 337 #[vR a0, vI (7 : Int32), vI p2, vI p3, vI w_7_7, vI w_8_7, vI w_9_7, vI w_10_7, vI w_11_7, vI w_12_7, vI w_13_7, vI w_14_7, vI w_15_7, vI w_16_7, vI w_17_7] [(.ref b12), (.ref b12), (.ref b8), (.ref b8)])) _
    refine XS.iconst X34.here hx rfl (hb hby d3_337) ?_
    refine XS.iload X34.here hx rfl (hb hby d3_338) rfl ?_
    show Steps p.tables e below (T34.setTop (mkF m 340 #[vR a0, vI (7 : Int32), vI p2, vI p3, vI w_7_7, vI w_8_7, vI w_9_7, vI w_10_7, vI w_11_7, vI w_12_7, vI w_13_7, vI w_14_7, vI w_15_7, vI w_16_7, vI w_17_7] [(.int w_12_7), (.int (5 : Int32)), (.ref b12), (.ref b12), (.ref b8), (.ref b8)])) _
    refine st38 _ ?_
    refine XS.dup X38.here hx rfl (hb hby d3_341) rfl rfl ?_
    show Steps p.tables e below (T38.setTop (mkF m 342 #[vR a0, vI (7 : Int32), vI p2, vI p3, vI w_7_7, vI w_8_7, vI w_9_7, vI w_10_7, vI w_11_7, vI w_12_7, vI w_13_7, vI w_14_7, vI w_15_7, vI w_16_7, vI w_17_7] [(.ref b12), (.ref b12), (.ref b8), (.ref b8)])) _
    refine XS.bipush X38.here hx rfl (hb hby d3_342) ?_
    refine XS.iload X38.here hx rfl (hb hby d3_344) rfl ?_
    show Steps p.tables e below (T38.setTop (mkF m 346 #[vR a0, vI (7 : Int32), vI p2, vI p3, vI w_7_7, vI w_8_7, vI w_9_7, vI w_10_7, vI w_11_7, vI w_12_7, vI w_13_7, vI w_14_7, vI w_15_7, vI w_16_7, vI w_17_7] [(.int w_13_7), (.int (6 : Int32)), (.ref b12), (.ref b12), (.ref b8), (.ref b8)])) _
    refine st42 _ ?_
    refine st79.trans ?_
    show Steps p.tables e below (T79.setTop (mkF m 350 #[vR a0, vI (7 : Int32), vI p2, vI p3, vI w_7_7, vI w_8_7, vI w_9_7, vI w_10_7, vI w_11_7, vI w_12_7, vI w_13_7, vI w_14_7, vI w_15_7, vI w_16_7, vI w_17_7] [(.ref b8)])) _
    jvm_step X79.here [X79.here.top, hx, (hb hby d3_350), X79.method', Bd.returns, Value.isRef, FieldType.isReference]
    first | (intro acts; rw [hr _ acts rfl rfl rfl]) | rw [hr _ _ rfl rfl rfl]
    exact Steps.refl _
  · show Q3n7 Z cs_a0 w_COMPACT_STRINGS w_SIOOBE_FORMATTER a0 p2 p3 h0 n0 _ T79.heap _
    exact ⟨b8, ([(nar .char w_7_7), (nar .char w_8_7), (nar .char w_9_7), (nar .char w_10_7), (nar .char w_11_7), (nar .char w_12_7), (nar .char w_13_7)] : List Int32), rfl, N79, K_80, (Nat.le_trans (Keep.refl h0 []).1 (Nat.le_of_eq g8.symm)), g79_0⟩
theorem d3_351 : decode method_5_code 351 = .ok (.iload_n 1, 1) := by decide +kernel
theorem d3_352 : decode method_5_code 352 = .ok (.bipush 8, 2) := by decide +kernel
theorem d3_354 : decode method_5_code 354 = .ok (.if_icmp .ne 57, 3) := by decide +kernel
theorem d3_357 : decode method_5_code 357 = .ok (.new 8, 3) := by decide +kernel
theorem d3_360 : decode method_5_code 360 = .ok (.dup, 1) := by decide +kernel
theorem d3_361 : decode method_5_code 361 = .ok (.bipush 8, 2) := by decide +kernel
theorem d3_363 : decode method_5_code 363 = .ok (.newarray .char, 2) := by decide +kernel
theorem d3_365 : decode method_5_code 365 = .ok (.dup, 1) := by decide +kernel
theorem d3_366 : decode method_5_code 366 = .ok (.iconst 0, 1) := by decide +kernel
theorem d3_367 : decode method_5_code 367 = .ok (.iload 4, 2) := by decide +kernel
theorem d3_369 : decode method_5_code 369 = .ok (.castore, 1) := by decide +kernel
theorem d3_370 : decode method_5_code 370 = .ok (.dup, 1) := by decide +kernel
theorem d3_371 : decode method_5_code 371 = .ok (.iconst 1, 1) := by decide +kernel
theorem d3_372 : decode method_5_code 372 = .ok (.iload 5, 2) := by decide +kernel
theorem d3_374 : decode method_5_code 374 = .ok (.castore, 1) := by decide +kernel
theorem d3_375 : decode method_5_code 375 = .ok (.dup, 1) := by decide +kernel
theorem d3_376 : decode method_5_code 376 = .ok (.iconst 2, 1) := by decide +kernel
theorem d3_377 : decode method_5_code 377 = .ok (.iload 6, 2) := by decide +kernel
theorem d3_379 : decode method_5_code 379 = .ok (.castore, 1) := by decide +kernel
theorem d3_380 : decode method_5_code 380 = .ok (.dup, 1) := by decide +kernel
theorem d3_381 : decode method_5_code 381 = .ok (.iconst 3, 1) := by decide +kernel
theorem d3_382 : decode method_5_code 382 = .ok (.iload 7, 2) := by decide +kernel
theorem d3_384 : decode method_5_code 384 = .ok (.castore, 1) := by decide +kernel
theorem d3_385 : decode method_5_code 385 = .ok (.dup, 1) := by decide +kernel
theorem d3_386 : decode method_5_code 386 = .ok (.iconst 4, 1) := by decide +kernel
theorem d3_387 : decode method_5_code 387 = .ok (.iload 8, 2) := by decide +kernel
theorem d3_389 : decode method_5_code 389 = .ok (.castore, 1) := by decide +kernel
theorem d3_390 : decode method_5_code 390 = .ok (.dup, 1) := by decide +kernel
theorem d3_391 : decode method_5_code 391 = .ok (.iconst 5, 1) := by decide +kernel
theorem d3_392 : decode method_5_code 392 = .ok (.iload 9, 2) := by decide +kernel
theorem d3_394 : decode method_5_code 394 = .ok (.castore, 1) := by decide +kernel
theorem d3_395 : decode method_5_code 395 = .ok (.dup, 1) := by decide +kernel
theorem d3_396 : decode method_5_code 396 = .ok (.bipush 6, 2) := by decide +kernel
theorem d3_398 : decode method_5_code 398 = .ok (.iload 10, 2) := by decide +kernel
theorem d3_400 : decode method_5_code 400 = .ok (.castore, 1) := by decide +kernel
theorem d3_401 : decode method_5_code 401 = .ok (.dup, 1) := by decide +kernel
theorem d3_402 : decode method_5_code 402 = .ok (.bipush 7, 2) := by decide +kernel
theorem d3_404 : decode method_5_code 404 = .ok (.iload 11, 2) := by decide +kernel
theorem d3_406 : decode method_5_code 406 = .ok (.castore, 1) := by decide +kernel
theorem d3_407 : decode method_5_code 407 = .ok (.invokespecial 10, 3) := by decide +kernel
theorem d3_410 : decode method_5_code 410 = .ok (.areturn, 1) := by decide +kernel
def Q3n8 (Z : State) (cs_a0 : List Int32) (w_COMPACT_STRINGS : Int32) (w_SIOOBE_FORMATTER : Value) (a0 : Addr) (p2 : Int32) (p3 : Int32) (h0 : Heap) (n0 : Nat) (v : Option Value) (h : Heap) (L : List Loc) : Prop := ∃ b8 : Addr, ∃ cs_out : List Int32, v = some (.ref b8) ∧ Fr n0 L ∧ Keep h0 h [] ∧ h0.size ≤ b8 ∧ own_Txt Z h b8 cs_out
set_option maxRecDepth 65536 in
set_option maxHeartbeats 40000000 in
theorem rm3n8 (l : Launch) (Z : State) (A0 : Array Value) (hw : ∀ d ∈ tables_1, d.before A0 Z = true) (ws : List Jvm.Cond) (cs_a0 : List Int32) (w_COMPACT_STRINGS : Int32) (w_SIOOBE_FORMATTER : Value) (a0 : Addr) (p2 : Int32) (p3 : Int32) (h0 : Heap) (n0 : Nat) (OLD : Old Z n0 h0) (f_1 : own_Txt Z h0 a0 cs_a0) (c_2 : own_B p3) (f_3 : Sta Z Z.heap "java/lang/String" "COMPACT_STRINGS" "Z" (.int w_COMPACT_STRINGS)) (c_4 : ¬ (w_COMPACT_STRINGS = (0 : Int32))) (f_5 : Sta Z Z.heap "jdk/internal/util/Preconditions" "SIOOBE_FORMATTER" "Ljava/util/function/BiFunction;" w_SIOOBE_FORMATTER) (c_6 : w_SIOOBE_FORMATTER.isRef = true) :
    MetFree l (⟨"com/example/seshat/seshat/jpql/DatabaseNamedPinLaw", "word", "(Ljava/lang/String;IIC)Ljava/lang/String;"⟩ : MethodName) (head1 (Jvm.Cond.code (⟨"com/example/seshat/seshat/jpql/DatabaseNamedPinLaw", "word", "(Ljava/lang/String;IIC)Ljava/lang/String;"⟩ : MethodName) method_5_code 15 (some (.object "java/lang/String")) :: ws) ({ frames := 6, cells := 3, slots := 40, locals := 120 } : Room)) (fun a U => a = #[(.ref a0), (.int (8 : Int32)), (.int p2), (.int p3)] ∧ Z.Warmed39 U.vm ∧ U.heap = h0) (fun _ _ _ _ _ => True) (fun _ U o U' => ∃ v L, o = .returned v ∧ Q3n8 Z cs_a0 w_COMPACT_STRINGS w_SIOOBE_FORMATTER a0 p2 p3 h0 n0 v U'.heap L ∧ FrameEnd U o U' L ({ frames := 6, cells := 3, slots := 40, locals := 120 } : Room).cells ({ frames := 6, cells := 3, slots := 40, locals := 120 } : Room).slots) := by
  refine MetFree.of_bodySF (plainFor_of_name pn_com_example_seshat_seshat_jpql_DatabaseNamedPinLaw) hisR ?_
  intro p e s m args below meth c s₁ Bd hml0 hP hK
  obtain ⟨rfl, hZ, hh⟩ := hP
  have hx := Bd.exec
  have hby := Bd.bytes
  have hml : c.maxLocals = 15 := hml0
  have hown : s.vm.findClass "com/example/seshat/seshat/jpql/DatabaseNamedPinLaw" = some m.cls := findClass_of_methodNamed Bd.named
  have hnm := (name_of_methodNamed Bd.named Bd.method).1
  have X0 : Stand p l e ({ frames := 6, cells := 3, slots := 40, locals := 120 } : Room) s m #[(.ref a0), (.int (8 : Int32)), (.int p2), (.int p3)] below meth c s₁ [] 0 0 := Stand.of_body Bd
  have e0 : s₁.heap = h0 := by rw [← hh, Bd.state]; rfl
  have N0 := Fr.nil n0
  have pre0 : ∀ t, Steps p.tables e below (s₁.setTop (mkF m 0 #[vR a0, vI (8 : Int32), vI p2, vI p3, .unset, .unset, .unset, .unset, .unset, .unset, .unset, .unset, .unset, .unset, .unset] [])) t → Steps p.tables e below (s₁.setTop (entryFrame m #[(.ref a0), (.int (8 : Int32)), (.int p2), (.int p3)] 15)) t := fun t k => castTop (ef_3 m a0 (8 : Int32) p2 p3) k
  obtain ⟨w_7_7, w_8_7, w_9_7, w_10_7, w_11_7, w_12_7, w_13_7, w_14_7, w_15_7, w_16_7, w_17_7, T7, L7, X7, N7, e7, g7_0, g7_1, g7_2, g7_3, g7_4, g7_5, g7_6, g7_7, g7_8, g7_9, g7_10, st7⟩ := rm3s l Z A0 hw cs_a0 w_COMPACT_STRINGS w_SIOOBE_FORMATTER a0 (8 : Int32) p2 p3 h0 n0 OLD f_1 c_2 f_3 c_4 f_5 c_6 X0 hx hZ hby hml hown hh e0
  obtain ⟨T8, h8, X8, e8, E8, A8, D8, M8, st8⟩ := newO X7 hx hZ hown (hw _ (List.mem_of_getElem? (i := 106) rfl)) (hw _ (List.mem_of_getElem? (i := 3) rfl)) (hw _ (List.mem_of_getElem? (i := 2) rfl)) e7 (g := (mkF m 357 #[vR a0, vI (8 : Int32), vI p2, vI p3, vI w_7_7, vI w_8_7, vI w_9_7, vI w_10_7, vI w_11_7, vI w_12_7, vI w_13_7, vI w_14_7, vI w_15_7, vI w_16_7, vI w_17_7] [])) rfl (hb hby d3_357) (by decide) (by decide)
  obtain ⟨b8, g8⟩ : ∃ z, z = h0.size := ⟨_, rfl⟩
  rw [← g8] at A8 D8 M8 st8
  have K_9 : Keep h0 h8 [] := (Keep.refl h0 []).ext E8
  have f_10 : Fld Z h8 b8 "java/lang/String" "value" "[B" .null := (D8 (Or.inr (hw _ (List.mem_of_getElem? (i := 5) rfl))) (ty := (.array .byte)) (by decide))
  have f_11 : Fld Z h8 b8 "java/lang/String" "coder" "B" (.int (0 : Int32)) := (D8 (Or.inr (hw _ (List.mem_of_getElem? (i := 6) rfl))) (ty := .byte) (by decide))
  obtain ⟨T12, h12, k12, X12, e12, E12, A12, st12⟩ := newP X8 hx hZ (hw _ (List.mem_of_getElem? (i := 107) rfl)) e8 (g := (mkF m 363 #[vR a0, vI (8 : Int32), vI p2, vI p3, vI w_7_7, vI w_8_7, vI w_9_7, vI w_10_7, vI w_11_7, vI w_12_7, vI w_13_7, vI w_14_7, vI w_15_7, vI w_16_7, vI w_17_7] [(.int (8 : Int32)), (.ref b8), (.ref b8)])) rfl (hb hby d3_363) rfl (by decide) (cap := 8) (by decide) (by decide) (by decide) (by decide)
  obtain ⟨b12, g12⟩ : ∃ z, z = h8.size := ⟨_, rfl⟩
  rw [← g12] at A12 st12
  have K_13 : Keep h0 h12 [] := K_9.ext E12
  have f_14 : Arv Z h12 b12 k12 .char (8 : Int32) [(.int (0 : Int32)), (.int (0 : Int32)), (.int (0 : Int32)), (.int (0 : Int32)), (.int (0 : Int32)), (.int (0 : Int32)), (.int (0 : Int32)), (.int (0 : Int32))] (.int (0 : Int32)) := (Arv.new A12 (by decide)).pad (pad_rep [] (.int (0 : Int32)) 8)
  obtain ⟨cl15, Ar15, q15, s15, n15, hh15, gg15⟩ := id (f_14)
  have hin15 : ¬ ((0 : Int32) < 0 ∨ cl15.slots.size ≤ ((0 : Int32)).toNatClampNeg) := inb_of s15 ⟨by decide, by decide⟩
  obtain ⟨T16, h16, X16, e16, W16, st16⟩ := stC X12 hx hZ e12 Ar15 (j := (0 : Int32)) hin15 (g := (mkF m 369 #[vR a0, vI (8 : Int32), vI p2, vI p3, vI w_7_7, vI w_8_7, vI w_9_7, vI w_10_7, vI w_11_7, vI w_12_7, vI w_13_7, vI w_14_7, vI w_15_7, vI w_16_7, vI w_17_7] [(.int w_7_7), (.int (0 : Int32)), (.ref b12), (.ref b12), (.ref b8), (.ref b8)])) rfl rfl (hb hby d3_369)
  have O_17 := Old.ext OLD E8
  have ge_18 : n0 ≤ b12 := own_ge O_17 (Nat.le_of_eq g12.symm)
  have N16 := Fr.snoc X16 N7 ge_18
  have f_19 : Arv Z h16 b12 k12 .char (8 : Int32) [(.int (nar .char w_7_7)), (.int (0 : Int32)), (.int (0 : Int32)), (.int (0 : Int32)), (.int (0 : Int32)), (.int (0 : Int32)), (.int (0 : Int32)), (.int (0 : Int32))] (.int (0 : Int32)) := Arv.set Ar15 q15 s15 n15 hh15 gg15 (fits_nar_char _) W16 0 rfl (Nat.le_of_ble_eq_true rfl)
  have K_20 : Keep h0 h16 [] := K_13.wr W16 (Or.inr (Nat.le_trans K_9.1 (Nat.le_of_eq g12.symm)))
  obtain ⟨cl21, Ar21, q21, s21, n21, hh21, gg21⟩ := id (f_19)
  have hin21 : ¬ ((1 : Int32) < 0 ∨ cl21.slots.size ≤ ((1 : Int32)).toNatClampNeg) := inb_of s21 ⟨by decide, by decide⟩
  obtain ⟨T22, h22, X22, e22, W22, st22⟩ := stC X16 hx hZ e16 Ar21 (j := (1 : Int32)) hin21 (g := (mkF m 374 #[vR a0, vI (8 : Int32), vI p2, vI p3, vI w_7_7, vI w_8_7, vI w_9_7, vI w_10_7, vI w_11_7, vI w_12_7, vI w_13_7, vI w_14_7, vI w_15_7, vI w_16_7, vI w_17_7] [(.int w_8_7), (.int (1 : Int32)), (.ref b12), (.ref b12), (.ref b8), (.ref b8)])) rfl rfl (hb hby d3_374)
  have N22 := Fr.snoc X22 N16 ge_18
  have f_23 : Arv Z h22 b12 k12 .char (8 : Int32) [(.int (nar .char w_7_7)), (.int (nar .char w_8_7)), (.int (0 : Int32)), (.int (0 : Int32)), (.int (0 : Int32)), (.int (0 : Int32)), (.int (0 : Int32)), (.int (0 : Int32))] (.int (0 : Int32)) := Arv.set Ar21 q21 s21 n21 hh21 gg21 (fits_nar_char _) W22 1 rfl (Nat.le_of_ble_eq_true rfl)
  have K_24 : Keep h0 h22 [] := K_20.wr W22 (Or.inr (Nat.le_trans K_9.1 (Nat.le_of_eq g12.symm)))
  obtain ⟨cl25, Ar25, q25, s25, n25, hh25, gg25⟩ := id (f_23)
  have hin25 : ¬ ((2 : Int32) < 0 ∨ cl25.slots.size ≤ ((2 : Int32)).toNatClampNeg) := inb_of s25 ⟨by decide, by decide⟩
  obtain ⟨T26, h26, X26, e26, W26, st26⟩ := stC X22 hx hZ e22 Ar25 (j := (2 : Int32)) hin25 (g := (mkF m 379 #[vR a0, vI (8 : Int32), vI p2, vI p3, vI w_7_7, vI w_8_7, vI w_9_7, vI w_10_7, vI w_11_7, vI w_12_7, vI w_13_7, vI w_14_7, vI w_15_7, vI w_16_7, vI w_17_7] [(.int w_9_7), (.int (2 : Int32)), (.ref b12), (.ref b12), (.ref b8), (.ref b8)])) rfl rfl (hb hby d3_379)
  have N26 := Fr.snoc X26 N22 ge_18
  have f_27 : Arv Z h26 b12 k12 .char (8 : Int32) [(.int (nar .char w_7_7)), (.int (nar .char w_8_7)), (.int (nar .char w_9_7)), (.int (0 : Int32)), (.int (0 : Int32)), (.int (0 : Int32)), (.int (0 : Int32)), (.int (0 : Int32))] (.int (0 : Int32)) := Arv.set Ar25 q25 s25 n25 hh25 gg25 (fits_nar_char _) W26 2 rfl (Nat.le_of_ble_eq_true rfl)
  have K_28 : Keep h0 h26 [] := K_24.wr W26 (Or.inr (Nat.le_trans K_9.1 (Nat.le_of_eq g12.symm)))
  obtain ⟨cl29, Ar29, q29, s29, n29, hh29, gg29⟩ := id (f_27)
  have hin29 : ¬ ((3 : Int32) < 0 ∨ cl29.slots.size ≤ ((3 : Int32)).toNatClampNeg) := inb_of s29 ⟨by decide, by decide⟩
  obtain ⟨T30, h30, X30, e30, W30, st30⟩ := stC X26 hx hZ e26 Ar29 (j := (3 : Int32)) hin29 (g := (mkF m 384 #[vR a0, vI (8 : Int32), vI p2, vI p3, vI w_7_7, vI w_8_7, vI w_9_7, vI w_10_7, vI w_11_7, vI w_12_7, vI w_13_7, vI w_14_7, vI w_15_7, vI w_16_7, vI w_17_7] [(.int w_10_7), (.int (3 : Int32)), (.ref b12), (.ref b12), (.ref b8), (.ref b8)])) rfl rfl (hb hby d3_384)
  have N30 := Fr.snoc X30 N26 ge_18
  have f_31 : Arv Z h30 b12 k12 .char (8 : Int32) [(.int (nar .char w_7_7)), (.int (nar .char w_8_7)), (.int (nar .char w_9_7)), (.int (nar .char w_10_7)), (.int (0 : Int32)), (.int (0 : Int32)), (.int (0 : Int32)), (.int (0 : Int32))] (.int (0 : Int32)) := Arv.set Ar29 q29 s29 n29 hh29 gg29 (fits_nar_char _) W30 3 rfl (Nat.le_of_ble_eq_true rfl)
  have K_32 : Keep h0 h30 [] := K_28.wr W30 (Or.inr (Nat.le_trans K_9.1 (Nat.le_of_eq g12.symm)))
  obtain ⟨cl33, Ar33, q33, s33, n33, hh33, gg33⟩ := id (f_31)
  have hin33 : ¬ ((4 : Int32) < 0 ∨ cl33.slots.size ≤ ((4 : Int32)).toNatClampNeg) := inb_of s33 ⟨by decide, by decide⟩
  obtain ⟨T34, h34, X34, e34, W34, st34⟩ := stC X30 hx hZ e30 Ar33 (j := (4 : Int32)) hin33 (g := (mkF m 389 #[vR a0, vI (8 : Int32), vI p2, vI p3, vI w_7_7, vI w_8_7, vI w_9_7, vI w_10_7, vI w_11_7, vI w_12_7, vI w_13_7, vI w_14_7, vI w_15_7, vI w_16_7, vI w_17_7] [(.int w_11_7), (.int (4 : Int32)), (.ref b12), (.ref b12), (.ref b8), (.ref b8)])) rfl rfl (hb hby d3_389)
  have N34 := Fr.snoc X34 N30 ge_18
  have f_35 : Arv Z h34 b12 k12 .char (8 : Int32) [(.int (nar .char w_7_7)), (.int (nar .char w_8_7)), (.int (nar .char w_9_7)), (.int (nar .char w_10_7)), (.int (nar .char w_11_7)), (.int (0 : Int32)), (.int (0 : Int32)), (.int (0 : Int32))] (.int (0 : Int32)) := Arv.set Ar33 q33 s33 n33 hh33 gg33 (fits_nar_char _) W34 4 rfl (Nat.le_of_ble_eq_true rfl)
  have K_36 : Keep h0 h34 [] := K_32.wr W34 (Or.inr (Nat.le_trans K_9.1 (Nat.le_of_eq g12.symm)))
  obtain ⟨cl37, Ar37, q37, s37, n37, hh37, gg37⟩ := id (f_35)
  have hin37 : ¬ ((5 : Int32) < 0 ∨ cl37.slots.size ≤ ((5 : Int32)).toNatClampNeg) := inb_of s37 ⟨by decide, by decide⟩
  obtain ⟨T38, h38, X38, e38, W38, st38⟩ := stC X34 hx hZ e34 Ar37 (j := (5 : Int32)) hin37 (g := (mkF m 394 #[vR a0, vI (8 : Int32), vI p2, vI p3, vI w_7_7, vI w_8_7, vI w_9_7, vI w_10_7, vI w_11_7, vI w_12_7, vI w_13_7, vI w_14_7, vI w_15_7, vI w_16_7, vI w_17_7] [(.int w_12_7), (.int (5 : Int32)), (.ref b12), (.ref b12), (.ref b8), (.ref b8)])) rfl rfl (hb hby d3_394)
  have N38 := Fr.snoc X38 N34 ge_18
  have f_39 : Arv Z h38 b12 k12 .char (8 : Int32) [(.int (nar .char w_7_7)), (.int (nar .char w_8_7)), (.int (nar .char w_9_7)), (.int (nar .char w_10_7)), (.int (nar .char w_11_7)), (.int (nar .char w_12_7)), (.int (0 : Int32)), (.int (0 : Int32))] (.int (0 : Int32)) := Arv.set Ar37 q37 s37 n37 hh37 gg37 (fits_nar_char _) W38 5 rfl (Nat.le_of_ble_eq_true rfl)
  have K_40 : Keep h0 h38 [] := K_36.wr W38 (Or.inr (Nat.le_trans K_9.1 (Nat.le_of_eq g12.symm)))
  obtain ⟨cl41, Ar41, q41, s41, n41, hh41, gg41⟩ := id (f_39)
  have hin41 : ¬ ((6 : Int32) < 0 ∨ cl41.slots.size ≤ ((6 : Int32)).toNatClampNeg) := inb_of s41 ⟨by decide, by decide⟩
  obtain ⟨T42, h42, X42, e42, W42, st42⟩ := stC X38 hx hZ e38 Ar41 (j := (6 : Int32)) hin41 (g := (mkF m 400 #[vR a0, vI (8 : Int32), vI p2, vI p3, vI w_7_7, vI w_8_7, vI w_9_7, vI w_10_7, vI w_11_7, vI w_12_7, vI w_13_7, vI w_14_7, vI w_15_7, vI w_16_7, vI w_17_7] [(.int w_13_7), (.int (6 : Int32)), (.ref b12), (.ref b12), (.ref b8), (.ref b8)])) rfl rfl (hb hby d3_400)
  have N42 := Fr.snoc X42 N38 ge_18
  have f_43 : Arv Z h42 b12 k12 .char (8 : Int32) [(.int (nar .char w_7_7)), (.int (nar .char w_8_7)), (.int (nar .char w_9_7)), (.int (nar .char w_10_7)), (.int (nar .char w_11_7)), (.int (nar .char w_12_7)), (.int (nar .char w_13_7)), (.int (0 : Int32))] (.int (0 : Int32)) := Arv.set Ar41 q41 s41 n41 hh41 gg41 (fits_nar_char _) W42 6 rfl (Nat.le_of_ble_eq_true rfl)
  have K_44 : Keep h0 h42 [] := K_40.wr W42 (Or.inr (Nat.le_trans K_9.1 (Nat.le_of_eq g12.symm)))
  obtain ⟨cl45, Ar45, q45, s45, n45, hh45, gg45⟩ := id (f_43)
  have hin45 : ¬ ((7 : Int32) < 0 ∨ cl45.slots.size ≤ ((7 : Int32)).toNatClampNeg) := inb_of s45 ⟨by decide, by decide⟩
  obtain ⟨T46, h46, X46, e46, W46, st46⟩ := stC X42 hx hZ e42 Ar45 (j := (7 : Int32)) hin45 (g := (mkF m 406 #[vR a0, vI (8 : Int32), vI p2, vI p3, vI w_7_7, vI w_8_7, vI w_9_7, vI w_10_7, vI w_11_7, vI w_12_7, vI w_13_7, vI w_14_7, vI w_15_7, vI w_16_7, vI w_17_7] [(.int w_14_7), (.int (7 : Int32)), (.ref b12), (.ref b12), (.ref b8), (.ref b8)])) rfl rfl (hb hby d3_406)
  have N46 := Fr.snoc X46 N42 ge_18
  have f_47 : Arv Z h46 b12 k12 .char (8 : Int32) [(.int (nar .char w_7_7)), (.int (nar .char w_8_7)), (.int (nar .char w_9_7)), (.int (nar .char w_10_7)), (.int (nar .char w_11_7)), (.int (nar .char w_12_7)), (.int (nar .char w_13_7)), (.int (nar .char w_14_7))] (.int (0 : Int32)) := Arv.set Ar45 q45 s45 n45 hh45 gg45 (fits_nar_char _) W46 7 rfl (Nat.le_of_ble_eq_true rfl)
  have K_48 : Keep h0 h46 [] := K_44.wr W46 (Or.inr (Nat.le_trans K_9.1 (Nat.le_of_eq g12.symm)))
  have O_49 := Old.ext O_17 E12
  have O_50 := Old.wr O_49 W16 ge_18
  have O_51 := Old.wr O_50 W22 ge_18
  have O_52 := Old.wr O_51 W26 ge_18
  have O_53 := Old.wr O_52 W30 ge_18
  have O_54 := Old.wr O_53 W34 ge_18
  have O_55 := Old.wr O_54 W38 ge_18
  have O_56 := Old.wr O_55 W42 ge_18
  have O_57 := Old.wr O_56 W46 ge_18
  have ge_58 : n0 ≤ b8 := own_ge OLD (Nat.le_of_eq g8.symm)
  have f_59 := A8.ext E12
  have f_60 := f_59.wr W16
  have f_61 := f_60.wr W22
  have f_62 := f_61.wr W26
  have f_63 := f_62.wr W30
  have f_64 := f_63.wr W34
  have f_65 := f_64.wr W38
  have f_66 := f_65.wr W42
  have f_67 := f_66.wr W46
  have f_68 := f_10.ext E12
  have ne_69 : b8 ≠ b12 := Nat.ne_of_lt (Nat.lt_of_lt_of_le A8.lt (Nat.le_of_eq g12.symm))
  have f_70 := f_68.other W16 (Or.inl ne_69)
  have f_71 := f_70.other W22 (Or.inl ne_69)
  have f_72 := f_71.other W26 (Or.inl ne_69)
  have f_73 := f_72.other W30 (Or.inl ne_69)
  have f_74 := f_73.other W34 (Or.inl ne_69)
  have f_75 := f_74.other W38 (Or.inl ne_69)
  have f_76 := f_75.other W42 (Or.inl ne_69)
  have f_77 := f_76.other W46 (Or.inl ne_69)
  have f_78 := f_11.ext E12
  have f_79 := f_78.other W16 (Or.inl ne_69)
  have f_80 := f_79.other W22 (Or.inl ne_69)
  have f_81 := f_80.other W26 (Or.inl ne_69)
  have f_82 := f_81.other W30 (Or.inl ne_69)
  have f_83 := f_82.other W34 (Or.inl ne_69)
  have f_84 := f_83.other W38 (Or.inl ne_69)
  have f_85 := f_84.other W42 (Or.inl ne_69)
  have f_86 := f_85.other W46 (Or.inl ne_69)
  obtain ⟨_, _, ⟨T87, L87, k87, n87⟩, -, X87, ⟨Lc87, hQ87, l87, y87, z87⟩, st87⟩ := X46.specialBack hx (y := (⟨"java/lang/String", "<init>", "([C)V"⟩ : MethodName)) rfl hown (mvT hZ (hw _ (List.mem_of_getElem? (i := 108) rfl))) (mvT hZ (hw _ (List.mem_of_getElem? (i := 109) rfl))) (mvT hZ (hw _ (List.mem_of_getElem? (i := 110) rfl))) (by decide) (own_newB (W := 1) (n := 8) (cs := ([(nar .char w_7_7), (nar .char w_8_7), (nar .char w_9_7), (nar .char w_10_7), (nar .char w_11_7), (nar .char w_12_7), (nar .char w_13_7), (nar .char w_14_7)] : List Int32)) hZ hw O_57 f_3 c_4 ge_58 f_67 f_77 f_86 f_47 rfl (by decide) (by decide) (own_cS (own_bn g7_0) (own_cS (own_bn g7_1) (own_cS (own_bn g7_2) (own_cS (own_bn g7_3) (own_cS (own_bn g7_4) (own_cS (own_bn g7_5) (own_cS (own_bn g7_6) (own_cS (own_bn g7_7) own_c0)))))))) (by decide) (by decide)) (g := (mkF m 407 #[vR a0, vI (8 : Int32), vI p2, vI p3, vI w_7_7, vI w_8_7, vI w_9_7, vI w_10_7, vI w_11_7, vI w_12_7, vI w_13_7, vI w_14_7, vI w_15_7, vI w_16_7, vI w_17_7] [(.ref b12), (.ref b8), (.ref b8)])) rfl (by rw [hml]; rfl) (Steps.refl _) (a := b8) (argsL := [(.ref b12)]) (rest := [(.ref b8)]) (lenOf pd_7 rfl) rfl (by show 2 * 0 + _ ≤ _; exact Nat.le_of_eq rfl) (hb hby d3_407) (fun _ _ => ⟨rfl, e46, (by decide : 2 + 1 ≤ _), (by decide : 12 + 8 ≤ _)⟩)
  dsimp only [Pt.U, Pt.locs, Pt.cells, Pt.slots] at X87 l87 y87 z87 st87 hQ87
  subst l87 y87 z87
  obtain ⟨rfl, N87q, K87, g87_0⟩ := hQ87
  have N87 := Fr.app N46 N87q
  have K_88 : Keep h0 T87.heap [] := Keep.trans K_48 K87 (allS (Or.inr (Nat.le_trans (Keep.refl h0 []).1 (Nat.le_of_eq g8.symm))) all0)
  have f_89 := f_67.keep K87
  obtain ⟨fs, hr, hrun, hended, hW, hsame⟩ := X87.leave (v := some (.ref b8)) (fun h => by rw [Bd.returns] at h; cases h)
  refine ⟨_, _, pre0 _ ?_, hrun, hended, _, _, rfl, ?_, ⟨_, rfl⟩, hW, hsame.mono (by decide) (by decide)⟩
  · show Steps p.tables e below (s₁.setTop (mkF m 0 #[vR a0, vI (8 : Int32), vI p2, vI p3, .unset, .unset, .unset, .unset, .unset, .unset, .unset, .unset, .unset, .unset, .unset] [])) _
    refine st7 _ ?_
    show Steps p.tables e below (T7.setTop (mkF m 104 #[vR a0, vI (8 : Int32), vI p2, vI p3, vI w_7_7, vI w_8_7, vI w_9_7, vI w_10_7, vI w_11_7, vI w_12_7, vI w_13_7, vI w_14_7, vI w_15_7, vI w_16_7, vI w_17_7] [])) _
    refine XS.iloadN X7.here hx rfl (hb hby d3_104) rfl ?_
    refine XS.iconst X7.here hx rfl (hb hby d3_105) ?_
    show Steps p.tables e below (T7.setTop (mkF m 106 #[vR a0, vI (8 : Int32), vI p2, vI p3, vI w_7_7, vI w_8_7, vI w_9_7, vI w_10_7, vI w_11_7, vI w_12_7, vI w_13_7, vI w_14_7, vI w_15_7, vI w_16_7, vI w_17_7] [(.int (1 : Int32)), (.int (8 : Int32))])) _
    refine XS.icmpYes X7.here hx rfl (pc0 := 106) (pc' := 115) rfl (hb hby d3_106) rfl (feq (by decide : ¬ ((8 : Int32) = (1 : Int32)))).2 (by decide) (by decide) ?_
    refine XS.iloadN X7.here hx rfl (hb hby d3_115) rfl ?_
    show Steps p.tables e below (T7.setTop (mkF m 116 #[vR a0, vI (8 : Int32), vI p2, vI p3, vI w_7_7, vI w_8_7, vI w_9_7, vI w_10_7, vI w_11_7, vI w_12_7, vI w_13_7, vI w_14_7, vI w_15_7, vI w_16_7, vI w_17_7] [(.int (8 : Int32))])) _
    refine XS.iconst X7.here hx rfl (hb hby d3_116) ?_
    refine XS.icmpYes X7.here hx rfl (pc0 := 117) (pc' := 141) rfl (hb hby d3_117) rfl (feq (by decide : ¬ ((8 : Int32) = (2 : Int32)))).2 (by decide) (by decide) ?_
    show Steps p.tables e below (T7.setTop (mkF m 141 #[vR a0, vI (8 : Int32), vI p2, vI p3, vI w_7_7, vI w_8_7, vI w_9_7, vI w_10_7, vI w_11_7, vI w_12_7, vI w_13_7, vI w_14_7, vI w_15_7, vI w_16_7, vI w_17_7] [])) _
    refine XS.iloadN X7.here hx rfl (hb hby d3_141) rfl ?_
    refine XS.iconst X7.here hx rfl (hb hby d3_142) ?_
    show Steps p.tables e below (T7.setTop (mkF m 143 #[vR a0, vI (8 : Int32), vI p2, vI p3, vI w_7_7, vI w_8_7, vI w_9_7, vI w_10_7, vI w_11_7, vI w_12_7, vI w_13_7, vI w_14_7, vI w_15_7, vI w_16_7, vI w_17_7] [(.int (3 : Int32)), (.int (8 : Int32))])) _
    refine XS.icmpYes X7.here hx rfl (pc0 := 143) (pc' := 172) rfl (hb hby d3_143) rfl (feq (by decide : ¬ ((8 : Int32) = (3 : Int32)))).2 (by decide) (by decide) ?_
    refine XS.iloadN X7.here hx rfl (hb hby d3_172) rfl ?_
    show Steps p.tables e below (T7.setTop (mkF m 173 #[vR a0, vI (8 : Int32), vI p2, vI p3, vI w_7_7, vI w_8_7, vI w_9_7, vI w_10_7, vI w_11_7, vI w_12_7, vI w_13_7, vI w_14_7, vI w_15_7, vI w_16_7, vI w_17_7] [(.int (8 : Int32))])) _
    refine XS.iconst X7.here hx rfl (hb hby d3_173) ?_
    refine XS.icmpYes X7.here hx rfl (pc0 := 174) (pc' := 208) rfl (hb hby d3_174) rfl (feq (by decide : ¬ ((8 : Int32) = (4 : Int32)))).2 (by decide) (by decide) ?_
    show Steps p.tables e below (T7.setTop (mkF m 208 #[vR a0, vI (8 : Int32), vI p2, vI p3, vI w_7_7, vI w_8_7, vI w_9_7, vI w_10_7, vI w_11_7, vI w_12_7, vI w_13_7, vI w_14_7, vI w_15_7, vI w_16_7, vI w_17_7] [])) _
    refine XS.iloadN X7.here hx rfl (hb hby d3_208) rfl ?_
    refine XS.iconst X7.here hx rfl (hb hby d3_209) ?_
    show Steps p.tables e below (T7.setTop (mkF m 210 #[vR a0, vI (8 : Int32), vI p2, vI p3, vI w_7_7, vI w_8_7, vI w_9_7, vI w_10_7, vI w_11_7, vI w_12_7, vI w_13_7, vI w_14_7, vI w_15_7, vI w_16_7, vI w_17_7] [(.int (5 : Int32)), (.int (8 : Int32))])) _
    refine XS.icmpYes X7.here hx rfl (pc0 := 210) (pc' := 249) rfl (hb hby d3_210) rfl (feq (by decide : ¬ ((8 : Int32) = (5 : Int32)))).2 (by decide) (by decide) ?_
    refine XS.iloadN X7.here hx rfl (hb hby d3_249) rfl ?_
    show Steps p.tables e below (T7.setTop (mkF m 250 #[vR a0, vI (8 : Int32), vI p2, vI p3, vI w_7_7, vI w_8_7, vI w_9_7, vI w_10_7, vI w_11_7, vI w_12_7, vI w_13_7, vI w_14_7, vI w_15_7, vI w_16_7, vI w_17_7] [(.int (8 : Int32))])) _
    refine XS.bipush X7.here hx rfl (hb hby d3_250) ?_
    refine XS.icmpYes X7.here hx rfl (pc0 := 252) (pc' := 297) rfl (hb hby d3_252) rfl (feq (by decide : ¬ ((8 : Int32) = (6 : Int32)))).2 (by decide) (by decide) ?_
    show Steps p.tables e below (T7.setTop (mkF m 297 #[vR a0, vI (8 : Int32), vI p2, vI p3, vI w_7_7, vI w_8_7, vI w_9_7, vI w_10_7, vI w_11_7, vI w_12_7, vI w_13_7, vI w_14_7, vI w_15_7, vI w_16_7, vI w_17_7] [])) _
    refine XS.iloadN X7.here hx rfl (hb hby d3_297) rfl ?_
    refine XS.bipush X7.here hx rfl (hb hby d3_298) ?_
    show Steps p.tables e below (T7.setTop (mkF m 300 #[vR a0, vI (8 : Int32), vI p2, vI p3, vI w_7_7, vI w_8_7, vI w_9_7, vI w_10_7, vI w_11_7, vI w_12_7, vI w_13_7, vI w_14_7, vI w_15_7, vI w_16_7, vI w_17_7] [(.int (7 : Int32)), (.int (8 : Int32))])) _
    refine XS.icmpYes X7.here hx rfl (pc0 := 300) (pc' := 351) rfl (hb hby d3_300) rfl (feq (by decide : ¬ ((8 : Int32) = (7 : Int32)))).2 (by decide) (by decide) ?_
    refine XS.iloadN X7.here hx rfl (hb hby d3_351) rfl ?_
    show Steps p.tables e below (T7.setTop (mkF m 352 #[vR a0, vI (8 : Int32), vI p2, vI p3, vI w_7_7, vI w_8_7, vI w_9_7, vI w_10_7, vI w_11_7, vI w_12_7, vI w_13_7, vI w_14_7, vI w_15_7, vI w_16_7, vI w_17_7] [(.int (8 : Int32))])) _
    refine XS.bipush X7.here hx rfl (hb hby d3_352) ?_
    refine XS.icmpNo X7.here hx rfl (hb hby d3_354) rfl (teq (by decide : (8 : Int32) = (8 : Int32))).2 ?_
    show Steps p.tables e below (T7.setTop (mkF m 357 #[vR a0, vI (8 : Int32), vI p2, vI p3, vI w_7_7, vI w_8_7, vI w_9_7, vI w_10_7, vI w_11_7, vI w_12_7, vI w_13_7, vI w_14_7, vI w_15_7, vI w_16_7, vI w_17_7] [])) _
    refine st8 _ ?_
    refine XS.dup X8.here hx rfl (hb hby d3_360) rfl rfl ?_
    show Steps p.tables e below (T8.setTop (mkF m 361 #[vR a0, vI (8 : Int32), vI p2, vI p3, vI w_7_7, vI w_8_7, vI w_9_7, vI w_10_7, vI w_11_7, vI w_12_7, vI w_13_7, vI w_14_7, vI w_15_7, vI w_16_7, vI w_17_7] [(.ref b8), (.ref b8)])) _
    refine XS.bipush X8.here hx rfl (hb hby d3_361) ?_
    refine st12 _ ?_
    show Steps p.tables e below (T12.setTop (mkF m 365 #[vR a0, vI (8 : Int32), vI p2, vI p3, vI w_7_7, vI w_8_7, vI w_9_7, vI w_10_7, vI w_11_7, vI w_12_7, vI w_13_7, vI w_14_7, vI w_15_7, vI w_16_7, vI w_17_7] [(.ref b12), (.ref b8), (.ref b8)])) _
    refine XS.dup X12.here hx rfl (hb hby d3_365) rfl rfl ?_
    refine XS.iconst X12.here hx rfl (hb hby d3_366) ?_
    show Steps p.tables e below (T12.setTop (mkF m 367 #[vR a0, vI (8 : Int32), vI p2, vI p3, vI w_7_7, vI w_8_7, vI w_9_7, vI w_10_7, vI w_11_7, vI w_12_7, vI w_13_7, vI w_14_7, vI w_15_7, vI w_16_7, vI w_17_7] [(.int (0 : Int32)), (.ref b12), (.ref b12), (.ref b8), (.ref b8)])) _
    refine XS.iload X12.here hx rfl (hb hby d3_367) rfl ?_
    refine st16 _ ?_
    show Steps p.tables e below (T16.setTop (mkF m 370 #[vR a0, vI (8 : Int32), vI p2, vI p3, vI w_7_7, vI w_8_7, vI w_9_7, vI w_10_7, vI w_11_7, vI w_12_7, vI w_13_7, vI w_14_7, vI w_15_7, vI w_16_7, vI w_17_7] [(.ref b12), (.ref b8), (.ref b8)])) _
    refine XS.dup X16.here hx rfl (hb hby d3_370) rfl rfl ?_
    refine XS.iconst X16.here hx rfl (hb hby d3_371) ?_
    show Steps p.tables e below (T16.setTop (mkF m 372 #[vR a0, vI (8 : Int32), vI p2, vI p3, vI w_7_7, vI w_8_7, vI w_9_7, vI w_10_7, vI w_11_7, vI w_12_7, vI w_13_7, vI w_14_7, vI w_15_7, vI w_16_7, vI w_17_7] [(.int (1 : Int32)), (.ref b12), (.ref b12), (.ref b8), (.ref b8)])) _
    refine XS.iload X16.here hx rfl (hb hby d3_372) rfl ?_
    refine st22 _ ?_
    show Steps p.tables e below (T22.setTop (mkF m 375 #[vR a0, vI (8 : Int32), vI p2, vI p3, vI w_7_7, vI w_8_7, vI w_9_7, vI w_10_7, vI w_11_7, vI w_12_7, vI w_13_7, vI w_14_7, vI w_15_7, vI w_16_7, vI w_17_7] [(.ref b12), (.ref b8), (.ref b8)])) _
    refine XS.dup X22.here hx rfl (hb hby d3_375) rfl rfl ?_
    refine XS.iconst X22.here hx rfl (hb hby d3_376) ?_
    show Steps p.tables e below (T22.setTop (mkF m 377 #[vR a0, vI (8 : Int32), vI p2, vI p3, vI w_7_7, vI w_8_7, vI w_9_7, vI w_10_7, vI w_11_7, vI w_12_7, vI w_13_7, vI w_14_7, vI w_15_7, vI w_16_7, vI w_17_7] [(.int (2 : Int32)), (.ref b12), (.ref b12), (.ref b8), (.ref b8)])) _
    refine XS.iload X22.here hx rfl (hb hby d3_377) rfl ?_
    refine st26 _ ?_
    show Steps p.tables e below (T26.setTop (mkF m 380 #[vR a0, vI (8 : Int32), vI p2, vI p3, vI w_7_7, vI w_8_7, vI w_9_7, vI w_10_7, vI w_11_7, vI w_12_7, vI w_13_7, vI w_14_7, vI w_15_7, vI w_16_7, vI w_17_7] [(.ref b12), (.ref b8), (.ref b8)])) _
    refine XS.dup X26.here hx rfl (hb hby d3_380) rfl rfl ?_
    refine XS.iconst X26.here hx rfl (hb hby d3_381) ?_
    show Steps p.tables e below (T26.setTop (mkF m 382 #[vR a0, vI (8 : Int32), vI p2, vI p3, vI w_7_7, vI w_8_7, vI w_9_7, vI w_10_7, vI w_11_7, vI w_12_7, vI w_13_7, vI w_14_7, vI w_15_7, vI w_16_7, vI w_17_7] [(.int (3 : Int32)), (.ref b12), (.ref b12), (.ref b8), (.ref b8)])) _
    refine XS.iload X26.here hx rfl (hb hby d3_382) rfl ?_
    refine st30 _ ?_
    show Steps p.tables e below (T30.setTop (mkF m 385 #[vR a0, vI (8 : Int32), vI p2, vI p3, vI w_7_7, vI w_8_7, vI w_9_7, vI w_10_7, vI w_11_7, vI w_12_7, vI w_13_7, vI w_14_7, vI w_15_7, vI w_16_7, vI w_17_7] [(.ref b12), (.ref b8), (.ref b8)])) _
    refine XS.dup X30.here hx rfl (hb hby d3_385) rfl rfl ?_
    refine XS.iconst X30.here hx rfl (hb hby d3_386) ?_
    show Steps p.tables e below (T30.setTop (mkF m 387 #[vR a0, vI (8 : Int32), vI p2, vI p3, vI w_7_7, vI w_8_7, vI w_9_7, vI w_10_7, vI w_11_7, vI w_12_7, vI w_13_7, vI w_14_7, vI w_15_7, vI w_16_7, vI w_17_7] [(.int (4 : Int32)), (.ref b12), (.ref b12), (.ref b8), (.ref b8)])) _
    refine XS.iload X30.here hx rfl (hb hby d3_387) rfl ?_
    refine st34 _ ?_
    show Steps p.tables e below (T34.setTop (mkF m 390 #[vR a0, vI (8 : Int32), vI p2, vI p3, vI w_7_7, vI w_8_7, vI w_9_7, vI w_10_7, vI w_11_7, vI w_12_7, vI w_13_7, vI w_14_7, vI w_15_7, vI w_16_7, vI w_17_7] [(.ref b12), (.ref b8), (.ref b8)])) _
    refine XS.dup X34.here hx rfl (hb hby d3_390) rfl rfl ?_
    refine XS.iconst X34.here hx rfl (hb hby d3_391) ?_
    show Steps p.tables e below (T34.setTop (mkF m 392 #[vR a0, vI (8 : Int32), vI p2, vI p3, vI w_7_7, vI w_8_7, vI w_9_7, vI w_10_7, vI w_11_7, vI w_12_7, vI w_13_7, vI w_14_7, vI w_15_7, vI w_16_7, vI w_17_7] [(.int (5 : Int32)), (.ref b12), (.ref b12), (.ref b8), (.ref b8)])) _
    refine XS.iload X34.here hx rfl (hb hby d3_392) rfl ?_
    refine st38 _ ?_
    show Steps p.tables e below (T38.setTop (mkF m 395 #[vR a0, vI (8 : Int32), vI p2, vI p3, vI w_7_7, vI w_8_7, vI w_9_7, vI w_10_7, vI w_11_7, vI w_12_7, vI w_13_7, vI w_14_7, vI w_15_7, vI w_16_7, vI w_17_7] [(.ref b12), (.ref b8), (.ref b8)])) _
    refine XS.dup X38.here hx rfl (hb hby d3_395) rfl rfl ?_
    refine XS.bipush X38.here hx rfl (hb hby d3_396) ?_
    show Steps p.tables e below (T38.setTop (mkF m 398 #[vR a0, vI (8 : Int32), vI p2, vI p3, vI w_7_7, vI w_8_7, vI w_9_7, vI w_10_7, vI w_11_7, vI w_12_7, vI w_13_7, vI w_14_7, vI w_15_7, vI w_16_7, vI w_17_7] [(.int (6 : Int32)), (.ref b12), (.ref b12), (.ref b8), (.ref b8)])) _
    refine XS.iload X38.here hx rfl (hb hby d3_398) rfl ?_
    refine st42 _ ?_
    show Steps p.tables e below (T42.setTop (mkF m 401 #[vR a0, vI (8 : Int32), vI p2, vI p3, vI w_7_7, vI w_8_7, vI w_9_7, vI w_10_7, vI w_11_7, vI w_12_7, vI w_13_7, vI w_14_7, vI w_15_7, vI w_16_7, vI w_17_7] [(.ref b12), (.ref b8), (.ref b8)])) _
    refine XS.dup X42.here hx rfl (hb hby d3_401) rfl rfl ?_
    refine XS.bipush X42.here hx rfl (hb hby d3_402) ?_
    show Steps p.tables e below (T42.setTop (mkF m 404 #[vR a0, vI (8 : Int32), vI p2, vI p3, vI w_7_7, vI w_8_7, vI w_9_7, vI w_10_7, vI w_11_7, vI w_12_7, vI w_13_7, vI w_14_7, vI w_15_7, vI w_16_7, vI w_17_7] [(.int (7 : Int32)), (.ref b12), (.ref b12), (.ref b8), (.ref b8)])) _
    refine XS.iload X42.here hx rfl (hb hby d3_404) rfl ?_
    refine st46 _ ?_
    show Steps p.tables e below (T46.setTop (mkF m 407 #[vR a0, vI (8 : Int32), vI p2, vI p3, vI w_7_7, vI w_8_7, vI w_9_7, vI w_10_7, vI w_11_7, vI w_12_7, vI w_13_7, vI w_14_7, vI w_15_7, vI w_16_7, vI w_17_7] [(.ref b12), (.ref b8), (.ref b8)])) _
    refine st87.trans ?_
    show Steps p.tables e below (T87.setTop (mkF m 410 #[vR a0, vI (8 : Int32), vI p2, vI p3, vI w_7_7, vI w_8_7, vI w_9_7, vI w_10_7, vI w_11_7, vI w_12_7, vI w_13_7, vI w_14_7, vI w_15_7, vI w_16_7, vI w_17_7] [(.ref b8)])) _
    jvm_step X87.here [X87.here.top, hx, (hb hby d3_410), X87.method', Bd.returns, Value.isRef, FieldType.isReference]
    first | (intro acts; rw [hr _ acts rfl rfl rfl]) | rw [hr _ _ rfl rfl rfl]
    exact Steps.refl _
  · show Q3n8 Z cs_a0 w_COMPACT_STRINGS w_SIOOBE_FORMATTER a0 p2 p3 h0 n0 _ T87.heap _
    exact ⟨b8, ([(nar .char w_7_7), (nar .char w_8_7), (nar .char w_9_7), (nar .char w_10_7), (nar .char w_11_7), (nar .char w_12_7), (nar .char w_13_7), (nar .char w_14_7)] : List Int32), rfl, N87, K_88, (Nat.le_trans (Keep.refl h0 []).1 (Nat.le_of_eq g8.symm)), g87_0⟩
theorem d3_411 : decode method_5_code 411 = .ok (.iload_n 1, 1) := by decide +kernel
theorem d3_412 : decode method_5_code 412 = .ok (.bipush 9, 2) := by decide +kernel
theorem d3_414 : decode method_5_code 414 = .ok (.if_icmp .ne 63, 3) := by decide +kernel
theorem d3_417 : decode method_5_code 417 = .ok (.new 8, 3) := by decide +kernel
theorem d3_420 : decode method_5_code 420 = .ok (.dup, 1) := by decide +kernel
theorem d3_421 : decode method_5_code 421 = .ok (.bipush 9, 2) := by decide +kernel
theorem d3_423 : decode method_5_code 423 = .ok (.newarray .char, 2) := by decide +kernel
theorem d3_425 : decode method_5_code 425 = .ok (.dup, 1) := by decide +kernel
theorem d3_426 : decode method_5_code 426 = .ok (.iconst 0, 1) := by decide +kernel
theorem d3_427 : decode method_5_code 427 = .ok (.iload 4, 2) := by decide +kernel
theorem d3_429 : decode method_5_code 429 = .ok (.castore, 1) := by decide +kernel
theorem d3_430 : decode method_5_code 430 = .ok (.dup, 1) := by decide +kernel
theorem d3_431 : decode method_5_code 431 = .ok (.iconst 1, 1) := by decide +kernel
theorem d3_432 : decode method_5_code 432 = .ok (.iload 5, 2) := by decide +kernel
theorem d3_434 : decode method_5_code 434 = .ok (.castore, 1) := by decide +kernel
theorem d3_435 : decode method_5_code 435 = .ok (.dup, 1) := by decide +kernel
theorem d3_436 : decode method_5_code 436 = .ok (.iconst 2, 1) := by decide +kernel
theorem d3_437 : decode method_5_code 437 = .ok (.iload 6, 2) := by decide +kernel
theorem d3_439 : decode method_5_code 439 = .ok (.castore, 1) := by decide +kernel
theorem d3_440 : decode method_5_code 440 = .ok (.dup, 1) := by decide +kernel
theorem d3_441 : decode method_5_code 441 = .ok (.iconst 3, 1) := by decide +kernel
theorem d3_442 : decode method_5_code 442 = .ok (.iload 7, 2) := by decide +kernel
theorem d3_444 : decode method_5_code 444 = .ok (.castore, 1) := by decide +kernel
theorem d3_445 : decode method_5_code 445 = .ok (.dup, 1) := by decide +kernel
theorem d3_446 : decode method_5_code 446 = .ok (.iconst 4, 1) := by decide +kernel
theorem d3_447 : decode method_5_code 447 = .ok (.iload 8, 2) := by decide +kernel
theorem d3_449 : decode method_5_code 449 = .ok (.castore, 1) := by decide +kernel
theorem d3_450 : decode method_5_code 450 = .ok (.dup, 1) := by decide +kernel
theorem d3_451 : decode method_5_code 451 = .ok (.iconst 5, 1) := by decide +kernel
theorem d3_452 : decode method_5_code 452 = .ok (.iload 9, 2) := by decide +kernel
theorem d3_454 : decode method_5_code 454 = .ok (.castore, 1) := by decide +kernel
theorem d3_455 : decode method_5_code 455 = .ok (.dup, 1) := by decide +kernel
theorem d3_456 : decode method_5_code 456 = .ok (.bipush 6, 2) := by decide +kernel
theorem d3_458 : decode method_5_code 458 = .ok (.iload 10, 2) := by decide +kernel
theorem d3_460 : decode method_5_code 460 = .ok (.castore, 1) := by decide +kernel
theorem d3_461 : decode method_5_code 461 = .ok (.dup, 1) := by decide +kernel
theorem d3_462 : decode method_5_code 462 = .ok (.bipush 7, 2) := by decide +kernel
theorem d3_464 : decode method_5_code 464 = .ok (.iload 11, 2) := by decide +kernel
theorem d3_466 : decode method_5_code 466 = .ok (.castore, 1) := by decide +kernel
theorem d3_467 : decode method_5_code 467 = .ok (.dup, 1) := by decide +kernel
theorem d3_468 : decode method_5_code 468 = .ok (.bipush 8, 2) := by decide +kernel
theorem d3_470 : decode method_5_code 470 = .ok (.iload 12, 2) := by decide +kernel
theorem d3_472 : decode method_5_code 472 = .ok (.castore, 1) := by decide +kernel
theorem d3_473 : decode method_5_code 473 = .ok (.invokespecial 10, 3) := by decide +kernel
theorem d3_476 : decode method_5_code 476 = .ok (.areturn, 1) := by decide +kernel
def Q3n9 (Z : State) (cs_a0 : List Int32) (w_COMPACT_STRINGS : Int32) (w_SIOOBE_FORMATTER : Value) (a0 : Addr) (p2 : Int32) (p3 : Int32) (h0 : Heap) (n0 : Nat) (v : Option Value) (h : Heap) (L : List Loc) : Prop := ∃ b8 : Addr, ∃ cs_out : List Int32, v = some (.ref b8) ∧ Fr n0 L ∧ Keep h0 h [] ∧ h0.size ≤ b8 ∧ own_Txt Z h b8 cs_out
set_option maxRecDepth 65536 in
set_option maxHeartbeats 40000000 in
theorem rm3n9 (l : Launch) (Z : State) (A0 : Array Value) (hw : ∀ d ∈ tables_1, d.before A0 Z = true) (ws : List Jvm.Cond) (cs_a0 : List Int32) (w_COMPACT_STRINGS : Int32) (w_SIOOBE_FORMATTER : Value) (a0 : Addr) (p2 : Int32) (p3 : Int32) (h0 : Heap) (n0 : Nat) (OLD : Old Z n0 h0) (f_1 : own_Txt Z h0 a0 cs_a0) (c_2 : own_B p3) (f_3 : Sta Z Z.heap "java/lang/String" "COMPACT_STRINGS" "Z" (.int w_COMPACT_STRINGS)) (c_4 : ¬ (w_COMPACT_STRINGS = (0 : Int32))) (f_5 : Sta Z Z.heap "jdk/internal/util/Preconditions" "SIOOBE_FORMATTER" "Ljava/util/function/BiFunction;" w_SIOOBE_FORMATTER) (c_6 : w_SIOOBE_FORMATTER.isRef = true) :
    MetFree l (⟨"com/example/seshat/seshat/jpql/DatabaseNamedPinLaw", "word", "(Ljava/lang/String;IIC)Ljava/lang/String;"⟩ : MethodName) (head1 (Jvm.Cond.code (⟨"com/example/seshat/seshat/jpql/DatabaseNamedPinLaw", "word", "(Ljava/lang/String;IIC)Ljava/lang/String;"⟩ : MethodName) method_5_code 15 (some (.object "java/lang/String")) :: ws) ({ frames := 6, cells := 3, slots := 40, locals := 120 } : Room)) (fun a U => a = #[(.ref a0), (.int (9 : Int32)), (.int p2), (.int p3)] ∧ Z.Warmed39 U.vm ∧ U.heap = h0) (fun _ _ _ _ _ => True) (fun _ U o U' => ∃ v L, o = .returned v ∧ Q3n9 Z cs_a0 w_COMPACT_STRINGS w_SIOOBE_FORMATTER a0 p2 p3 h0 n0 v U'.heap L ∧ FrameEnd U o U' L ({ frames := 6, cells := 3, slots := 40, locals := 120 } : Room).cells ({ frames := 6, cells := 3, slots := 40, locals := 120 } : Room).slots) := by
  refine MetFree.of_bodySF (plainFor_of_name pn_com_example_seshat_seshat_jpql_DatabaseNamedPinLaw) hisR ?_
  intro p e s m args below meth c s₁ Bd hml0 hP hK
  obtain ⟨rfl, hZ, hh⟩ := hP
  have hx := Bd.exec
  have hby := Bd.bytes
  have hml : c.maxLocals = 15 := hml0
  have hown : s.vm.findClass "com/example/seshat/seshat/jpql/DatabaseNamedPinLaw" = some m.cls := findClass_of_methodNamed Bd.named
  have hnm := (name_of_methodNamed Bd.named Bd.method).1
  have X0 : Stand p l e ({ frames := 6, cells := 3, slots := 40, locals := 120 } : Room) s m #[(.ref a0), (.int (9 : Int32)), (.int p2), (.int p3)] below meth c s₁ [] 0 0 := Stand.of_body Bd
  have e0 : s₁.heap = h0 := by rw [← hh, Bd.state]; rfl
  have N0 := Fr.nil n0
  have pre0 : ∀ t, Steps p.tables e below (s₁.setTop (mkF m 0 #[vR a0, vI (9 : Int32), vI p2, vI p3, .unset, .unset, .unset, .unset, .unset, .unset, .unset, .unset, .unset, .unset, .unset] [])) t → Steps p.tables e below (s₁.setTop (entryFrame m #[(.ref a0), (.int (9 : Int32)), (.int p2), (.int p3)] 15)) t := fun t k => castTop (ef_3 m a0 (9 : Int32) p2 p3) k
  obtain ⟨w_7_7, w_8_7, w_9_7, w_10_7, w_11_7, w_12_7, w_13_7, w_14_7, w_15_7, w_16_7, w_17_7, T7, L7, X7, N7, e7, g7_0, g7_1, g7_2, g7_3, g7_4, g7_5, g7_6, g7_7, g7_8, g7_9, g7_10, st7⟩ := rm3s l Z A0 hw cs_a0 w_COMPACT_STRINGS w_SIOOBE_FORMATTER a0 (9 : Int32) p2 p3 h0 n0 OLD f_1 c_2 f_3 c_4 f_5 c_6 X0 hx hZ hby hml hown hh e0
  obtain ⟨T8, h8, X8, e8, E8, A8, D8, M8, st8⟩ := newO X7 hx hZ hown (hw _ (List.mem_of_getElem? (i := 106) rfl)) (hw _ (List.mem_of_getElem? (i := 3) rfl)) (hw _ (List.mem_of_getElem? (i := 2) rfl)) e7 (g := (mkF m 417 #[vR a0, vI (9 : Int32), vI p2, vI p3, vI w_7_7, vI w_8_7, vI w_9_7, vI w_10_7, vI w_11_7, vI w_12_7, vI w_13_7, vI w_14_7, vI w_15_7, vI w_16_7, vI w_17_7] [])) rfl (hb hby d3_417) (by decide) (by decide)
  obtain ⟨b8, g8⟩ : ∃ z, z = h0.size := ⟨_, rfl⟩
  rw [← g8] at A8 D8 M8 st8
  have K_9 : Keep h0 h8 [] := (Keep.refl h0 []).ext E8
  have f_10 : Fld Z h8 b8 "java/lang/String" "value" "[B" .null := (D8 (Or.inr (hw _ (List.mem_of_getElem? (i := 5) rfl))) (ty := (.array .byte)) (by decide))
  have f_11 : Fld Z h8 b8 "java/lang/String" "coder" "B" (.int (0 : Int32)) := (D8 (Or.inr (hw _ (List.mem_of_getElem? (i := 6) rfl))) (ty := .byte) (by decide))
  obtain ⟨T12, h12, k12, X12, e12, E12, A12, st12⟩ := newP X8 hx hZ (hw _ (List.mem_of_getElem? (i := 107) rfl)) e8 (g := (mkF m 423 #[vR a0, vI (9 : Int32), vI p2, vI p3, vI w_7_7, vI w_8_7, vI w_9_7, vI w_10_7, vI w_11_7, vI w_12_7, vI w_13_7, vI w_14_7, vI w_15_7, vI w_16_7, vI w_17_7] [(.int (9 : Int32)), (.ref b8), (.ref b8)])) rfl (hb hby d3_423) rfl (by decide) (cap := 9) (by decide) (by decide) (by decide) (by decide)
  obtain ⟨b12, g12⟩ : ∃ z, z = h8.size := ⟨_, rfl⟩
  rw [← g12] at A12 st12
  have K_13 : Keep h0 h12 [] := K_9.ext E12
  have f_14 : Arv Z h12 b12 k12 .char (9 : Int32) [(.int (0 : Int32)), (.int (0 : Int32)), (.int (0 : Int32)), (.int (0 : Int32)), (.int (0 : Int32)), (.int (0 : Int32)), (.int (0 : Int32)), (.int (0 : Int32)), (.int (0 : Int32))] (.int (0 : Int32)) := (Arv.new A12 (by decide)).pad (pad_rep [] (.int (0 : Int32)) 9)
  obtain ⟨cl15, Ar15, q15, s15, n15, hh15, gg15⟩ := id (f_14)
  have hin15 : ¬ ((0 : Int32) < 0 ∨ cl15.slots.size ≤ ((0 : Int32)).toNatClampNeg) := inb_of s15 ⟨by decide, by decide⟩
  obtain ⟨T16, h16, X16, e16, W16, st16⟩ := stC X12 hx hZ e12 Ar15 (j := (0 : Int32)) hin15 (g := (mkF m 429 #[vR a0, vI (9 : Int32), vI p2, vI p3, vI w_7_7, vI w_8_7, vI w_9_7, vI w_10_7, vI w_11_7, vI w_12_7, vI w_13_7, vI w_14_7, vI w_15_7, vI w_16_7, vI w_17_7] [(.int w_7_7), (.int (0 : Int32)), (.ref b12), (.ref b12), (.ref b8), (.ref b8)])) rfl rfl (hb hby d3_429)
  have O_17 := Old.ext OLD E8
  have ge_18 : n0 ≤ b12 := own_ge O_17 (Nat.le_of_eq g12.symm)
  have N16 := Fr.snoc X16 N7 ge_18
  have f_19 : Arv Z h16 b12 k12 .char (9 : Int32) [(.int (nar .char w_7_7)), (.int (0 : Int32)), (.int (0 : Int32)), (.int (0 : Int32)), (.int (0 : Int32)), (.int (0 : Int32)), (.int (0 : Int32)), (.int (0 : Int32)), (.int (0 : Int32))] (.int (0 : Int32)) := Arv.set Ar15 q15 s15 n15 hh15 gg15 (fits_nar_char _) W16 0 rfl (Nat.le_of_ble_eq_true rfl)
  have K_20 : Keep h0 h16 [] := K_13.wr W16 (Or.inr (Nat.le_trans K_9.1 (Nat.le_of_eq g12.symm)))
  obtain ⟨cl21, Ar21, q21, s21, n21, hh21, gg21⟩ := id (f_19)
  have hin21 : ¬ ((1 : Int32) < 0 ∨ cl21.slots.size ≤ ((1 : Int32)).toNatClampNeg) := inb_of s21 ⟨by decide, by decide⟩
  obtain ⟨T22, h22, X22, e22, W22, st22⟩ := stC X16 hx hZ e16 Ar21 (j := (1 : Int32)) hin21 (g := (mkF m 434 #[vR a0, vI (9 : Int32), vI p2, vI p3, vI w_7_7, vI w_8_7, vI w_9_7, vI w_10_7, vI w_11_7, vI w_12_7, vI w_13_7, vI w_14_7, vI w_15_7, vI w_16_7, vI w_17_7] [(.int w_8_7), (.int (1 : Int32)), (.ref b12), (.ref b12), (.ref b8), (.ref b8)])) rfl rfl (hb hby d3_434)
  have N22 := Fr.snoc X22 N16 ge_18
  have f_23 : Arv Z h22 b12 k12 .char (9 : Int32) [(.int (nar .char w_7_7)), (.int (nar .char w_8_7)), (.int (0 : Int32)), (.int (0 : Int32)), (.int (0 : Int32)), (.int (0 : Int32)), (.int (0 : Int32)), (.int (0 : Int32)), (.int (0 : Int32))] (.int (0 : Int32)) := Arv.set Ar21 q21 s21 n21 hh21 gg21 (fits_nar_char _) W22 1 rfl (Nat.le_of_ble_eq_true rfl)
  have K_24 : Keep h0 h22 [] := K_20.wr W22 (Or.inr (Nat.le_trans K_9.1 (Nat.le_of_eq g12.symm)))
  obtain ⟨cl25, Ar25, q25, s25, n25, hh25, gg25⟩ := id (f_23)
  have hin25 : ¬ ((2 : Int32) < 0 ∨ cl25.slots.size ≤ ((2 : Int32)).toNatClampNeg) := inb_of s25 ⟨by decide, by decide⟩
  obtain ⟨T26, h26, X26, e26, W26, st26⟩ := stC X22 hx hZ e22 Ar25 (j := (2 : Int32)) hin25 (g := (mkF m 439 #[vR a0, vI (9 : Int32), vI p2, vI p3, vI w_7_7, vI w_8_7, vI w_9_7, vI w_10_7, vI w_11_7, vI w_12_7, vI w_13_7, vI w_14_7, vI w_15_7, vI w_16_7, vI w_17_7] [(.int w_9_7), (.int (2 : Int32)), (.ref b12), (.ref b12), (.ref b8), (.ref b8)])) rfl rfl (hb hby d3_439)
  have N26 := Fr.snoc X26 N22 ge_18
  have f_27 : Arv Z h26 b12 k12 .char (9 : Int32) [(.int (nar .char w_7_7)), (.int (nar .char w_8_7)), (.int (nar .char w_9_7)), (.int (0 : Int32)), (.int (0 : Int32)), (.int (0 : Int32)), (.int (0 : Int32)), (.int (0 : Int32)), (.int (0 : Int32))] (.int (0 : Int32)) := Arv.set Ar25 q25 s25 n25 hh25 gg25 (fits_nar_char _) W26 2 rfl (Nat.le_of_ble_eq_true rfl)
  have K_28 : Keep h0 h26 [] := K_24.wr W26 (Or.inr (Nat.le_trans K_9.1 (Nat.le_of_eq g12.symm)))
  obtain ⟨cl29, Ar29, q29, s29, n29, hh29, gg29⟩ := id (f_27)
  have hin29 : ¬ ((3 : Int32) < 0 ∨ cl29.slots.size ≤ ((3 : Int32)).toNatClampNeg) := inb_of s29 ⟨by decide, by decide⟩
  obtain ⟨T30, h30, X30, e30, W30, st30⟩ := stC X26 hx hZ e26 Ar29 (j := (3 : Int32)) hin29 (g := (mkF m 444 #[vR a0, vI (9 : Int32), vI p2, vI p3, vI w_7_7, vI w_8_7, vI w_9_7, vI w_10_7, vI w_11_7, vI w_12_7, vI w_13_7, vI w_14_7, vI w_15_7, vI w_16_7, vI w_17_7] [(.int w_10_7), (.int (3 : Int32)), (.ref b12), (.ref b12), (.ref b8), (.ref b8)])) rfl rfl (hb hby d3_444)
  have N30 := Fr.snoc X30 N26 ge_18
  have f_31 : Arv Z h30 b12 k12 .char (9 : Int32) [(.int (nar .char w_7_7)), (.int (nar .char w_8_7)), (.int (nar .char w_9_7)), (.int (nar .char w_10_7)), (.int (0 : Int32)), (.int (0 : Int32)), (.int (0 : Int32)), (.int (0 : Int32)), (.int (0 : Int32))] (.int (0 : Int32)) := Arv.set Ar29 q29 s29 n29 hh29 gg29 (fits_nar_char _) W30 3 rfl (Nat.le_of_ble_eq_true rfl)
  have K_32 : Keep h0 h30 [] := K_28.wr W30 (Or.inr (Nat.le_trans K_9.1 (Nat.le_of_eq g12.symm)))
  obtain ⟨cl33, Ar33, q33, s33, n33, hh33, gg33⟩ := id (f_31)
  have hin33 : ¬ ((4 : Int32) < 0 ∨ cl33.slots.size ≤ ((4 : Int32)).toNatClampNeg) := inb_of s33 ⟨by decide, by decide⟩
  obtain ⟨T34, h34, X34, e34, W34, st34⟩ := stC X30 hx hZ e30 Ar33 (j := (4 : Int32)) hin33 (g := (mkF m 449 #[vR a0, vI (9 : Int32), vI p2, vI p3, vI w_7_7, vI w_8_7, vI w_9_7, vI w_10_7, vI w_11_7, vI w_12_7, vI w_13_7, vI w_14_7, vI w_15_7, vI w_16_7, vI w_17_7] [(.int w_11_7), (.int (4 : Int32)), (.ref b12), (.ref b12), (.ref b8), (.ref b8)])) rfl rfl (hb hby d3_449)
  have N34 := Fr.snoc X34 N30 ge_18
  have f_35 : Arv Z h34 b12 k12 .char (9 : Int32) [(.int (nar .char w_7_7)), (.int (nar .char w_8_7)), (.int (nar .char w_9_7)), (.int (nar .char w_10_7)), (.int (nar .char w_11_7)), (.int (0 : Int32)), (.int (0 : Int32)), (.int (0 : Int32)), (.int (0 : Int32))] (.int (0 : Int32)) := Arv.set Ar33 q33 s33 n33 hh33 gg33 (fits_nar_char _) W34 4 rfl (Nat.le_of_ble_eq_true rfl)
  have K_36 : Keep h0 h34 [] := K_32.wr W34 (Or.inr (Nat.le_trans K_9.1 (Nat.le_of_eq g12.symm)))
  obtain ⟨cl37, Ar37, q37, s37, n37, hh37, gg37⟩ := id (f_35)
  have hin37 : ¬ ((5 : Int32) < 0 ∨ cl37.slots.size ≤ ((5 : Int32)).toNatClampNeg) := inb_of s37 ⟨by decide, by decide⟩
  obtain ⟨T38, h38, X38, e38, W38, st38⟩ := stC X34 hx hZ e34 Ar37 (j := (5 : Int32)) hin37 (g := (mkF m 454 #[vR a0, vI (9 : Int32), vI p2, vI p3, vI w_7_7, vI w_8_7, vI w_9_7, vI w_10_7, vI w_11_7, vI w_12_7, vI w_13_7, vI w_14_7, vI w_15_7, vI w_16_7, vI w_17_7] [(.int w_12_7), (.int (5 : Int32)), (.ref b12), (.ref b12), (.ref b8), (.ref b8)])) rfl rfl (hb hby d3_454)
  have N38 := Fr.snoc X38 N34 ge_18
  have f_39 : Arv Z h38 b12 k12 .char (9 : Int32) [(.int (nar .char w_7_7)), (.int (nar .char w_8_7)), (.int (nar .char w_9_7)), (.int (nar .char w_10_7)), (.int (nar .char w_11_7)), (.int (nar .char w_12_7)), (.int (0 : Int32)), (.int (0 : Int32)), (.int (0 : Int32))] (.int (0 : Int32)) := Arv.set Ar37 q37 s37 n37 hh37 gg37 (fits_nar_char _) W38 5 rfl (Nat.le_of_ble_eq_true rfl)
  have K_40 : Keep h0 h38 [] := K_36.wr W38 (Or.inr (Nat.le_trans K_9.1 (Nat.le_of_eq g12.symm)))
  obtain ⟨cl41, Ar41, q41, s41, n41, hh41, gg41⟩ := id (f_39)
  have hin41 : ¬ ((6 : Int32) < 0 ∨ cl41.slots.size ≤ ((6 : Int32)).toNatClampNeg) := inb_of s41 ⟨by decide, by decide⟩
  obtain ⟨T42, h42, X42, e42, W42, st42⟩ := stC X38 hx hZ e38 Ar41 (j := (6 : Int32)) hin41 (g := (mkF m 460 #[vR a0, vI (9 : Int32), vI p2, vI p3, vI w_7_7, vI w_8_7, vI w_9_7, vI w_10_7, vI w_11_7, vI w_12_7, vI w_13_7, vI w_14_7, vI w_15_7, vI w_16_7, vI w_17_7] [(.int w_13_7), (.int (6 : Int32)), (.ref b12), (.ref b12), (.ref b8), (.ref b8)])) rfl rfl (hb hby d3_460)
  have N42 := Fr.snoc X42 N38 ge_18
  have f_43 : Arv Z h42 b12 k12 .char (9 : Int32) [(.int (nar .char w_7_7)), (.int (nar .char w_8_7)), (.int (nar .char w_9_7)), (.int (nar .char w_10_7)), (.int (nar .char w_11_7)), (.int (nar .char w_12_7)), (.int (nar .char w_13_7)), (.int (0 : Int32)), (.int (0 : Int32))] (.int (0 : Int32)) := Arv.set Ar41 q41 s41 n41 hh41 gg41 (fits_nar_char _) W42 6 rfl (Nat.le_of_ble_eq_true rfl)
  have K_44 : Keep h0 h42 [] := K_40.wr W42 (Or.inr (Nat.le_trans K_9.1 (Nat.le_of_eq g12.symm)))
  obtain ⟨cl45, Ar45, q45, s45, n45, hh45, gg45⟩ := id (f_43)
  have hin45 : ¬ ((7 : Int32) < 0 ∨ cl45.slots.size ≤ ((7 : Int32)).toNatClampNeg) := inb_of s45 ⟨by decide, by decide⟩
  obtain ⟨T46, h46, X46, e46, W46, st46⟩ := stC X42 hx hZ e42 Ar45 (j := (7 : Int32)) hin45 (g := (mkF m 466 #[vR a0, vI (9 : Int32), vI p2, vI p3, vI w_7_7, vI w_8_7, vI w_9_7, vI w_10_7, vI w_11_7, vI w_12_7, vI w_13_7, vI w_14_7, vI w_15_7, vI w_16_7, vI w_17_7] [(.int w_14_7), (.int (7 : Int32)), (.ref b12), (.ref b12), (.ref b8), (.ref b8)])) rfl rfl (hb hby d3_466)
  have N46 := Fr.snoc X46 N42 ge_18
  have f_47 : Arv Z h46 b12 k12 .char (9 : Int32) [(.int (nar .char w_7_7)), (.int (nar .char w_8_7)), (.int (nar .char w_9_7)), (.int (nar .char w_10_7)), (.int (nar .char w_11_7)), (.int (nar .char w_12_7)), (.int (nar .char w_13_7)), (.int (nar .char w_14_7)), (.int (0 : Int32))] (.int (0 : Int32)) := Arv.set Ar45 q45 s45 n45 hh45 gg45 (fits_nar_char _) W46 7 rfl (Nat.le_of_ble_eq_true rfl)
  have K_48 : Keep h0 h46 [] := K_44.wr W46 (Or.inr (Nat.le_trans K_9.1 (Nat.le_of_eq g12.symm)))
  obtain ⟨cl49, Ar49, q49, s49, n49, hh49, gg49⟩ := id (f_47)
  have hin49 : ¬ ((8 : Int32) < 0 ∨ cl49.slots.size ≤ ((8 : Int32)).toNatClampNeg) := inb_of s49 ⟨by decide, by decide⟩
  obtain ⟨T50, h50, X50, e50, W50, st50⟩ := stC X46 hx hZ e46 Ar49 (j := (8 : Int32)) hin49 (g := (mkF m 472 #[vR a0, vI (9 : Int32), vI p2, vI p3, vI w_7_7, vI w_8_7, vI w_9_7, vI w_10_7, vI w_11_7, vI w_12_7, vI w_13_7, vI w_14_7, vI w_15_7, vI w_16_7, vI w_17_7] [(.int w_15_7), (.int (8 : Int32)), (.ref b12), (.ref b12), (.ref b8), (.ref b8)])) rfl rfl (hb hby d3_472)
  have N50 := Fr.snoc X50 N46 ge_18
  have f_51 : Arv Z h50 b12 k12 .char (9 : Int32) [(.int (nar .char w_7_7)), (.int (nar .char w_8_7)), (.int (nar .char w_9_7)), (.int (nar .char w_10_7)), (.int (nar .char w_11_7)), (.int (nar .char w_12_7)), (.int (nar .char w_13_7)), (.int (nar .char w_14_7)), (.int (nar .char w_15_7))] (.int (0 : Int32)) := Arv.set Ar49 q49 s49 n49 hh49 gg49 (fits_nar_char _) W50 8 rfl (Nat.le_of_ble_eq_true rfl)
  have K_52 : Keep h0 h50 [] := K_48.wr W50 (Or.inr (Nat.le_trans K_9.1 (Nat.le_of_eq g12.symm)))
  have O_53 := Old.ext O_17 E12
  have O_54 := Old.wr O_53 W16 ge_18
  have O_55 := Old.wr O_54 W22 ge_18
  have O_56 := Old.wr O_55 W26 ge_18
  have O_57 := Old.wr O_56 W30 ge_18
  have O_58 := Old.wr O_57 W34 ge_18
  have O_59 := Old.wr O_58 W38 ge_18
  have O_60 := Old.wr O_59 W42 ge_18
  have O_61 := Old.wr O_60 W46 ge_18
  have O_62 := Old.wr O_61 W50 ge_18
  have ge_63 : n0 ≤ b8 := own_ge OLD (Nat.le_of_eq g8.symm)
  have f_64 := A8.ext E12
  have f_65 := f_64.wr W16
  have f_66 := f_65.wr W22
  have f_67 := f_66.wr W26
  have f_68 := f_67.wr W30
  have f_69 := f_68.wr W34
  have f_70 := f_69.wr W38
  have f_71 := f_70.wr W42
  have f_72 := f_71.wr W46
  have f_73 := f_72.wr W50
  have f_74 := f_10.ext E12
  have ne_75 : b8 ≠ b12 := Nat.ne_of_lt (Nat.lt_of_lt_of_le A8.lt (Nat.le_of_eq g12.symm))
  have f_76 := f_74.other W16 (Or.inl ne_75)
  have f_77 := f_76.other W22 (Or.inl ne_75)
  have f_78 := f_77.other W26 (Or.inl ne_75)
  have f_79 := f_78.other W30 (Or.inl ne_75)
  have f_80 := f_79.other W34 (Or.inl ne_75)
  have f_81 := f_80.other W38 (Or.inl ne_75)
  have f_82 := f_81.other W42 (Or.inl ne_75)
  have f_83 := f_82.other W46 (Or.inl ne_75)
  have f_84 := f_83.other W50 (Or.inl ne_75)
  have f_85 := f_11.ext E12
  have f_86 := f_85.other W16 (Or.inl ne_75)
  have f_87 := f_86.other W22 (Or.inl ne_75)
  have f_88 := f_87.other W26 (Or.inl ne_75)
  have f_89 := f_88.other W30 (Or.inl ne_75)
  have f_90 := f_89.other W34 (Or.inl ne_75)
  have f_91 := f_90.other W38 (Or.inl ne_75)
  have f_92 := f_91.other W42 (Or.inl ne_75)
  have f_93 := f_92.other W46 (Or.inl ne_75)
  have f_94 := f_93.other W50 (Or.inl ne_75)
  obtain ⟨_, _, ⟨T95, L95, k95, n95⟩, -, X95, ⟨Lc95, hQ95, l95, y95, z95⟩, st95⟩ := X50.specialBack hx (y := (⟨"java/lang/String", "<init>", "([C)V"⟩ : MethodName)) rfl hown (mvT hZ (hw _ (List.mem_of_getElem? (i := 108) rfl))) (mvT hZ (hw _ (List.mem_of_getElem? (i := 109) rfl))) (mvT hZ (hw _ (List.mem_of_getElem? (i := 110) rfl))) (by decide) (own_newB (W := 1) (n := 9) (cs := ([(nar .char w_7_7), (nar .char w_8_7), (nar .char w_9_7), (nar .char w_10_7), (nar .char w_11_7), (nar .char w_12_7), (nar .char w_13_7), (nar .char w_14_7), (nar .char w_15_7)] : List Int32)) hZ hw O_62 f_3 c_4 ge_63 f_73 f_84 f_94 f_51 rfl (by decide) (by decide) (own_cS (own_bn g7_0) (own_cS (own_bn g7_1) (own_cS (own_bn g7_2) (own_cS (own_bn g7_3) (own_cS (own_bn g7_4) (own_cS (own_bn g7_5) (own_cS (own_bn g7_6) (own_cS (own_bn g7_7) (own_cS (own_bn g7_8) own_c0))))))))) (by decide) (by decide)) (g := (mkF m 473 #[vR a0, vI (9 : Int32), vI p2, vI p3, vI w_7_7, vI w_8_7, vI w_9_7, vI w_10_7, vI w_11_7, vI w_12_7, vI w_13_7, vI w_14_7, vI w_15_7, vI w_16_7, vI w_17_7] [(.ref b12), (.ref b8), (.ref b8)])) rfl (by rw [hml]; rfl) (Steps.refl _) (a := b8) (argsL := [(.ref b12)]) (rest := [(.ref b8)]) (lenOf pd_7 rfl) rfl (by show 2 * 0 + _ ≤ _; exact Nat.le_of_eq rfl) (hb hby d3_473) (fun _ _ => ⟨rfl, e50, (by decide : 2 + 1 ≤ _), (by decide : 13 + 9 ≤ _)⟩)
  dsimp only [Pt.U, Pt.locs, Pt.cells, Pt.slots] at X95 l95 y95 z95 st95 hQ95
  subst l95 y95 z95
  obtain ⟨rfl, N95q, K95, g95_0⟩ := hQ95
  have N95 := Fr.app N50 N95q
  have K_96 : Keep h0 T95.heap [] := Keep.trans K_52 K95 (allS (Or.inr (Nat.le_trans (Keep.refl h0 []).1 (Nat.le_of_eq g8.symm))) all0)
  have f_97 := f_73.keep K95
  obtain ⟨fs, hr, hrun, hended, hW, hsame⟩ := X95.leave (v := some (.ref b8)) (fun h => by rw [Bd.returns] at h; cases h)
  refine ⟨_, _, pre0 _ ?_, hrun, hended, _, _, rfl, ?_, ⟨_, rfl⟩, hW, hsame.mono (by decide) (by decide)⟩
  · show Steps p.tables e below (s₁.setTop (mkF m 0 #[vR a0, vI (9 : Int32), vI p2, vI p3, .unset, .unset, .unset, .unset, .unset, .unset, .unset, .unset, .unset, .unset, .unset] [])) _
    refine st7 _ ?_
    show Steps p.tables e below (T7.setTop (mkF m 104 #[vR a0, vI (9 : Int32), vI p2, vI p3, vI w_7_7, vI w_8_7, vI w_9_7, vI w_10_7, vI w_11_7, vI w_12_7, vI w_13_7, vI w_14_7, vI w_15_7, vI w_16_7, vI w_17_7] [])) _
    refine XS.iloadN X7.here hx rfl (hb hby d3_104) rfl ?_
    refine XS.iconst X7.here hx rfl (hb hby d3_105) ?_
    show Steps p.tables e below (T7.setTop (mkF m 106 #[vR a0, vI (9 : Int32), vI p2, vI p3, vI w_7_7, vI w_8_7, vI w_9_7, vI w_10_7, vI w_11_7, vI w_12_7, vI w_13_7, vI w_14_7, vI w_15_7, vI w_16_7, vI w_17_7] [(.int (1 : Int32)), (.int (9 : Int32))])) _
    refine XS.icmpYes X7.here hx rfl (pc0 := 106) (pc' := 115) rfl (hb hby d3_106) rfl (feq (by decide : ¬ ((9 : Int32) = (1 : Int32)))).2 (by decide) (by decide) ?_
    refine XS.iloadN X7.here hx rfl (hb hby d3_115) rfl ?_
    show Steps p.tables e below (T7.setTop (mkF m 116 #[vR a0, vI (9 : Int32), vI p2, vI p3, vI w_7_7, vI w_8_7, vI w_9_7, vI w_10_7, vI w_11_7, vI w_12_7, vI w_13_7, vI w_14_7, vI w_15_7, vI w_16_7, vI w_17_7] [(.int (9 : Int32))])) _
    refine XS.iconst X7.here hx rfl (hb hby d3_116) ?_
    refine XS.icmpYes X7.here hx rfl (pc0 := 117) (pc' := 141) rfl (hb hby d3_117) rfl (feq (by decide : ¬ ((9 : Int32) = (2 : Int32)))).2 (by decide) (by decide) ?_
    show Steps p.tables e below (T7.setTop (mkF m 141 #[vR a0, vI (9 : Int32), vI p2, vI p3, vI w_7_7, vI w_8_7, vI w_9_7, vI w_10_7, vI w_11_7, vI w_12_7, vI w_13_7, vI w_14_7, vI w_15_7, vI w_16_7, vI w_17_7] [])) _
    refine XS.iloadN X7.here hx rfl (hb hby d3_141) rfl ?_
    refine XS.iconst X7.here hx rfl (hb hby d3_142) ?_
    show Steps p.tables e below (T7.setTop (mkF m 143 #[vR a0, vI (9 : Int32), vI p2, vI p3, vI w_7_7, vI w_8_7, vI w_9_7, vI w_10_7, vI w_11_7, vI w_12_7, vI w_13_7, vI w_14_7, vI w_15_7, vI w_16_7, vI w_17_7] [(.int (3 : Int32)), (.int (9 : Int32))])) _
    refine XS.icmpYes X7.here hx rfl (pc0 := 143) (pc' := 172) rfl (hb hby d3_143) rfl (feq (by decide : ¬ ((9 : Int32) = (3 : Int32)))).2 (by decide) (by decide) ?_
    refine XS.iloadN X7.here hx rfl (hb hby d3_172) rfl ?_
    show Steps p.tables e below (T7.setTop (mkF m 173 #[vR a0, vI (9 : Int32), vI p2, vI p3, vI w_7_7, vI w_8_7, vI w_9_7, vI w_10_7, vI w_11_7, vI w_12_7, vI w_13_7, vI w_14_7, vI w_15_7, vI w_16_7, vI w_17_7] [(.int (9 : Int32))])) _
    refine XS.iconst X7.here hx rfl (hb hby d3_173) ?_
    refine XS.icmpYes X7.here hx rfl (pc0 := 174) (pc' := 208) rfl (hb hby d3_174) rfl (feq (by decide : ¬ ((9 : Int32) = (4 : Int32)))).2 (by decide) (by decide) ?_
    show Steps p.tables e below (T7.setTop (mkF m 208 #[vR a0, vI (9 : Int32), vI p2, vI p3, vI w_7_7, vI w_8_7, vI w_9_7, vI w_10_7, vI w_11_7, vI w_12_7, vI w_13_7, vI w_14_7, vI w_15_7, vI w_16_7, vI w_17_7] [])) _
    refine XS.iloadN X7.here hx rfl (hb hby d3_208) rfl ?_
    refine XS.iconst X7.here hx rfl (hb hby d3_209) ?_
    show Steps p.tables e below (T7.setTop (mkF m 210 #[vR a0, vI (9 : Int32), vI p2, vI p3, vI w_7_7, vI w_8_7, vI w_9_7, vI w_10_7, vI w_11_7, vI w_12_7, vI w_13_7, vI w_14_7, vI w_15_7, vI w_16_7, vI w_17_7] [(.int (5 : Int32)), (.int (9 : Int32))])) _
    refine XS.icmpYes X7.here hx rfl (pc0 := 210) (pc' := 249) rfl (hb hby d3_210) rfl (feq (by decide : ¬ ((9 : Int32) = (5 : Int32)))).2 (by decide) (by decide) ?_
    refine XS.iloadN X7.here hx rfl (hb hby d3_249) rfl ?_
    show Steps p.tables e below (T7.setTop (mkF m 250 #[vR a0, vI (9 : Int32), vI p2, vI p3, vI w_7_7, vI w_8_7, vI w_9_7, vI w_10_7, vI w_11_7, vI w_12_7, vI w_13_7, vI w_14_7, vI w_15_7, vI w_16_7, vI w_17_7] [(.int (9 : Int32))])) _
    refine XS.bipush X7.here hx rfl (hb hby d3_250) ?_
    refine XS.icmpYes X7.here hx rfl (pc0 := 252) (pc' := 297) rfl (hb hby d3_252) rfl (feq (by decide : ¬ ((9 : Int32) = (6 : Int32)))).2 (by decide) (by decide) ?_
    show Steps p.tables e below (T7.setTop (mkF m 297 #[vR a0, vI (9 : Int32), vI p2, vI p3, vI w_7_7, vI w_8_7, vI w_9_7, vI w_10_7, vI w_11_7, vI w_12_7, vI w_13_7, vI w_14_7, vI w_15_7, vI w_16_7, vI w_17_7] [])) _
    refine XS.iloadN X7.here hx rfl (hb hby d3_297) rfl ?_
    refine XS.bipush X7.here hx rfl (hb hby d3_298) ?_
    show Steps p.tables e below (T7.setTop (mkF m 300 #[vR a0, vI (9 : Int32), vI p2, vI p3, vI w_7_7, vI w_8_7, vI w_9_7, vI w_10_7, vI w_11_7, vI w_12_7, vI w_13_7, vI w_14_7, vI w_15_7, vI w_16_7, vI w_17_7] [(.int (7 : Int32)), (.int (9 : Int32))])) _
    refine XS.icmpYes X7.here hx rfl (pc0 := 300) (pc' := 351) rfl (hb hby d3_300) rfl (feq (by decide : ¬ ((9 : Int32) = (7 : Int32)))).2 (by decide) (by decide) ?_
    refine XS.iloadN X7.here hx rfl (hb hby d3_351) rfl ?_
    show Steps p.tables e below (T7.setTop (mkF m 352 #[vR a0, vI (9 : Int32), vI p2, vI p3, vI w_7_7, vI w_8_7, vI w_9_7, vI w_10_7, vI w_11_7, vI w_12_7, vI w_13_7, vI w_14_7, vI w_15_7, vI w_16_7, vI w_17_7] [(.int (9 : Int32))])) _
    refine XS.bipush X7.here hx rfl (hb hby d3_352) ?_
    refine XS.icmpYes X7.here hx rfl (pc0 := 354) (pc' := 411) rfl (hb hby d3_354) rfl (feq (by decide : ¬ ((9 : Int32) = (8 : Int32)))).2 (by decide) (by decide) ?_
    show Steps p.tables e below (T7.setTop (mkF m 411 #[vR a0, vI (9 : Int32), vI p2, vI p3, vI w_7_7, vI w_8_7, vI w_9_7, vI w_10_7, vI w_11_7, vI w_12_7, vI w_13_7, vI w_14_7, vI w_15_7, vI w_16_7, vI w_17_7] [])) _
    refine XS.iloadN X7.here hx rfl (hb hby d3_411) rfl ?_
    refine XS.bipush X7.here hx rfl (hb hby d3_412) ?_
    show Steps p.tables e below (T7.setTop (mkF m 414 #[vR a0, vI (9 : Int32), vI p2, vI p3, vI w_7_7, vI w_8_7, vI w_9_7, vI w_10_7, vI w_11_7, vI w_12_7, vI w_13_7, vI w_14_7, vI w_15_7, vI w_16_7, vI w_17_7] [(.int (9 : Int32)), (.int (9 : Int32))])) _
    refine XS.icmpNo X7.here hx rfl (hb hby d3_414) rfl (teq (by decide : (9 : Int32) = (9 : Int32))).2 ?_
    refine st8 _ ?_
    show Steps p.tables e below (T8.setTop (mkF m 420 #[vR a0, vI (9 : Int32), vI p2, vI p3, vI w_7_7, vI w_8_7, vI w_9_7, vI w_10_7, vI w_11_7, vI w_12_7, vI w_13_7, vI w_14_7, vI w_15_7, vI w_16_7, vI w_17_7] [(.ref b8)])) _
    refine XS.dup X8.here hx rfl (hb hby d3_420) rfl rfl ?_
    refine XS.bipush X8.here hx rfl (hb hby d3_421) ?_
    show Steps p.tables e below (T8.setTop (mkF m 423 #[vR a0, vI (9 : Int32), vI p2, vI p3, vI w_7_7, vI w_8_7, vI w_9_7, vI w_10_7, vI w_11_7, vI w_12_7, vI w_13_7, vI w_14_7, vI w_15_7, vI w_16_7, vI w_17_7] [(.int (9 : Int32)), (.ref b8), (.ref b8)])) _
    refine st12 _ ?_
    refine XS.dup X12.here hx rfl (hb hby d3_425) rfl rfl ?_
    show Steps p.tables e below (T12.setTop (mkF m 426 #[vR a0, vI (9 : Int32), vI p2, vI p3, vI w_7_7, vI w_8_7, vI w_9_7, vI w_10_7, vI w_11_7, vI w_12_7, vI w_13_7, vI w_14_7, vI w_15_7, vI w_16_7, vI w_17_7] [(.ref b12), (.ref b12), (.ref b8), (.ref b8)])) _
    refine XS.iconst X12.here hx rfl (hb hby d3_426) ?_
    refine XS.iload X12.here hx rfl (hb hby d3_427) rfl ?_
    show Steps p.tables e below (T12.setTop (mkF m 429 #[vR a0, vI (9 : Int32), vI p2, vI p3, vI w_7_7, vI w_8_7, vI w_9_7, vI w_10_7, vI w_11_7, vI w_12_7, vI w_13_7, vI w_14_7, vI w_15_7, vI w_16_7, vI w_17_7] [(.int w_7_7), (.int (0 : Int32)), (.ref b12), (.ref b12), (.ref b8), (.ref b8)])) _
    refine st16 _ ?_
    refine XS.dup X16.here hx rfl (hb hby d3_430) rfl rfl ?_
    show Steps p.tables e below (T16.setTop (mkF m 431 #[vR a0, vI (9 : Int32), vI p2, vI p3, vI w_7_7, vI w_8_7, vI w_9_7, vI w_10_7, vI w_11_7, vI w_12_7, vI w_13_7, vI w_14_7, vI w_15_7, vI w_16_7, vI w_17_7] [(.ref b12), (.ref b12), (.ref b8), (.ref b8)])) _
    refine XS.iconst X16.here hx rfl (hb hby d3_431) ?_
    refine XS.iload X16.here hx rfl (hb hby d3_432) rfl ?_
    show Steps p.tables e below (T16.setTop (mkF m 434 #[vR a0, vI (9 : Int32), vI p2, vI p3, vI w_7_7, vI w_8_7, vI w_9_7, vI w_10_7, vI w_11_7, vI w_12_7, vI w_13_7, vI w_14_7, vI w_15_7, vI w_16_7, vI w_17_7] [(.int w_8_7), (.int (1 : Int32)), (.ref b12), (.ref b12), (.ref b8), (.ref b8)])) _
    refine st22 _ ?_
    refine XS.dup X22.here hx rfl (hb hby d3_435) rfl rfl ?_
    show Steps p.tables e below (T22.setTop (mkF m 436 #[vR a0, vI (9 : Int32), vI p2, vI p3, vI w_7_7, vI w_8_7, vI w_9_7, vI w_10_7, vI w_11_7, vI w_12_7, vI w_13_7, vI w_14_7, vI w_15_7, vI w_16_7, vI w_17_7] [(.ref b12), (.ref b12), (.ref b8), (.ref b8)])) _
    refine XS.iconst X22.here hx rfl (hb hby d3_436) ?_
    refine XS.iload X22.here hx rfl (hb hby d3_437) rfl ?_
    show Steps p.tables e below (T22.setTop (mkF m 439 #[vR a0, vI (9 : Int32), vI p2, vI p3, vI w_7_7, vI w_8_7, vI w_9_7, vI w_10_7, vI w_11_7, vI w_12_7, vI w_13_7, vI w_14_7, vI w_15_7, vI w_16_7, vI w_17_7] [(.int w_9_7), (.int (2 : Int32)), (.ref b12), (.ref b12), (.ref b8), (.ref b8)])) _
    refine st26 _ ?_
    refine XS.dup X26.here hx rfl (hb hby d3_440) rfl rfl ?_
    show Steps p.tables e below (T26.setTop (mkF m 441 #[vR a0, vI (9 : Int32), vI p2, vI p3, vI w_7_7, vI w_8_7, vI w_9_7, vI w_10_7, vI w_11_7, vI w_12_7, vI w_13_7, vI w_14_7, vI w_15_7, vI w_16_7, vI w_17_7] [(.ref b12), (.ref b12), (.ref b8), (.ref b8)])) _
    refine XS.iconst X26.here hx rfl (hb hby d3_441) ?_
    refine XS.iload X26.here hx rfl (hb hby d3_442) rfl ?_
    show Steps p.tables e below (T26.setTop (mkF m 444 #[vR a0, vI (9 : Int32), vI p2, vI p3, vI w_7_7, vI w_8_7, vI w_9_7, vI w_10_7, vI w_11_7, vI w_12_7, vI w_13_7, vI w_14_7, vI w_15_7, vI w_16_7, vI w_17_7] [(.int w_10_7), (.int (3 : Int32)), (.ref b12), (.ref b12), (.ref b8), (.ref b8)])) _
    refine st30 _ ?_
    refine XS.dup X30.here hx rfl (hb hby d3_445) rfl rfl ?_
    show Steps p.tables e below (T30.setTop (mkF m 446 #[vR a0, vI (9 : Int32), vI p2, vI p3, vI w_7_7, vI w_8_7, vI w_9_7, vI w_10_7, vI w_11_7, vI w_12_7, vI w_13_7, vI w_14_7, vI w_15_7, vI w_16_7, vI w_17_7] [(.ref b12), (.ref b12), (.ref b8), (.ref b8)])) _
    refine XS.iconst X30.here hx rfl (hb hby d3_446) ?_
    refine XS.iload X30.here hx rfl (hb hby d3_447) rfl ?_
    show Steps p.tables e below (T30.setTop (mkF m 449 #[vR a0, vI (9 : Int32), vI p2, vI p3, vI w_7_7, vI w_8_7, vI w_9_7, vI w_10_7, vI w_11_7, vI w_12_7, vI w_13_7, vI w_14_7, vI w_15_7, vI w_16_7, vI w_17_7] [(.int w_11_7), (.int (4 : Int32)), (.ref b12), (.ref b12), (.ref b8), (.ref b8)])) _
    refine st34 _ ?_
    refine XS.dup X34.here hx rfl (hb hby d3_450) rfl rfl ?_
    show Steps p.tables e below (T34.setTop (mkF m 451 #[vR a0, vI (9 : Int32), vI p2, vI p3, vI w_7_7, vI w_8_7, vI w_9_7, vI w_10_7, vI w_11_7, vI w_12_7, vI w_13_7, vI w_14_7, vI w_15_7, vI w_16_7, vI w_17_7] [(.ref b12), (.ref b12), (.ref b8), (.ref b8)])) _
    refine XS.iconst X34.here hx rfl (hb hby d3_451) ?_
    refine XS.iload X34.here hx rfl (hb hby d3_452) rfl ?_
    show Steps p.tables e below (T34.setTop (mkF m 454 #[vR a0, vI (9 : Int32), vI p2, vI p3, vI w_7_7, vI w_8_7, vI w_9_7, vI w_10_7, vI w_11_7, vI w_12_7, vI w_13_7, vI w_14_7, vI w_15_7, vI w_16_7, vI w_17_7] [(.int w_12_7), (.int (5 : Int32)), (.ref b12), (.ref b12), (.ref b8), (.ref b8)])) _
    refine st38 _ ?_
    refine XS.dup X38.here hx rfl (hb hby d3_455) rfl rfl ?_
    show Steps p.tables e below (T38.setTop (mkF m 456 #[vR a0, vI (9 : Int32), vI p2, vI p3, vI w_7_7, vI w_8_7, vI w_9_7, vI w_10_7, vI w_11_7, vI w_12_7, vI w_13_7, vI w_14_7, vI w_15_7, vI w_16_7, vI w_17_7] [(.ref b12), (.ref b12), (.ref b8), (.ref b8)])) _
    refine XS.bipush X38.here hx rfl (hb hby d3_456) ?_
    refine XS.iload X38.here hx rfl (hb hby d3_458) rfl ?_
    show Steps p.tables e below (T38.setTop (mkF m 460 #[vR a0, vI (9 : Int32), vI p2, vI p3, vI w_7_7, vI w_8_7, vI w_9_7, vI w_10_7, vI w_11_7, vI w_12_7, vI w_13_7, vI w_14_7, vI w_15_7, vI w_16_7, vI w_17_7] [(.int w_13_7), (.int (6 : Int32)), (.ref b12), (.ref b12), (.ref b8), (.ref b8)])) _
    refine st42 _ ?_
    refine XS.dup X42.here hx rfl (hb hby d3_461) rfl rfl ?_
    show Steps p.tables e below (T42.setTop (mkF m 462 #[vR a0, vI (9 : Int32), vI p2, vI p3, vI w_7_7, vI w_8_7, vI w_9_7, vI w_10_7, vI w_11_7, vI w_12_7, vI w_13_7, vI w_14_7, vI w_15_7, vI w_16_7, vI w_17_7] [(.ref b12), (.ref b12), (.ref b8), (.ref b8)])) _
    refine XS.bipush X42.here hx rfl (hb hby d3_462) ?_
    refine XS.iload X42.here hx rfl (hb hby d3_464) rfl ?_
    show Steps p.tables e below (T42.setTop (mkF m 466 #[vR a0, vI (9 : Int32), vI p2, vI p3, vI w_7_7, vI w_8_7, vI w_9_7, vI w_10_7, vI w_11_7, vI w_12_7, vI w_13_7, vI w_14_7, vI w_15_7, vI w_16_7, vI w_17_7] [(.int w_14_7), (.int (7 : Int32)), (.ref b12), (.ref b12), (.ref b8), (.ref b8)])) _
    refine st46 _ ?_
    refine XS.dup X46.here hx rfl (hb hby d3_467) rfl rfl ?_
    show Steps p.tables e below (T46.setTop (mkF m 468 #[vR a0, vI (9 : Int32), vI p2, vI p3, vI w_7_7, vI w_8_7, vI w_9_7, vI w_10_7, vI w_11_7, vI w_12_7, vI w_13_7, vI w_14_7, vI w_15_7, vI w_16_7, vI w_17_7] [(.ref b12), (.ref b12), (.ref b8), (.ref b8)])) _
    refine XS.bipush X46.here hx rfl (hb hby d3_468) ?_
    refine XS.iload X46.here hx rfl (hb hby d3_470) rfl ?_
    show Steps p.tables e below (T46.setTop (mkF m 472 #[vR a0, vI (9 : Int32), vI p2, vI p3, vI w_7_7, vI w_8_7, vI w_9_7, vI w_10_7, vI w_11_7, vI w_12_7, vI w_13_7, vI w_14_7, vI w_15_7, vI w_16_7, vI w_17_7] [(.int w_15_7), (.int (8 : Int32)), (.ref b12), (.ref b12), (.ref b8), (.ref b8)])) _
    refine st50 _ ?_
    refine st95.trans ?_
    show Steps p.tables e below (T95.setTop (mkF m 476 #[vR a0, vI (9 : Int32), vI p2, vI p3, vI w_7_7, vI w_8_7, vI w_9_7, vI w_10_7, vI w_11_7, vI w_12_7, vI w_13_7, vI w_14_7, vI w_15_7, vI w_16_7, vI w_17_7] [(.ref b8)])) _
    jvm_step X95.here [X95.here.top, hx, (hb hby d3_476), X95.method', Bd.returns, Value.isRef, FieldType.isReference]
    first | (intro acts; rw [hr _ acts rfl rfl rfl]) | rw [hr _ _ rfl rfl rfl]
    exact Steps.refl _
  · show Q3n9 Z cs_a0 w_COMPACT_STRINGS w_SIOOBE_FORMATTER a0 p2 p3 h0 n0 _ T95.heap _
    exact ⟨b8, ([(nar .char w_7_7), (nar .char w_8_7), (nar .char w_9_7), (nar .char w_10_7), (nar .char w_11_7), (nar .char w_12_7), (nar .char w_13_7), (nar .char w_14_7), (nar .char w_15_7)] : List Int32), rfl, N95, K_96, (Nat.le_trans (Keep.refl h0 []).1 (Nat.le_of_eq g8.symm)), g95_0⟩
theorem d3_477 : decode method_5_code 477 = .ok (.iload_n 1, 1) := by decide +kernel
theorem d3_478 : decode method_5_code 478 = .ok (.bipush 10, 2) := by decide +kernel
theorem d3_480 : decode method_5_code 480 = .ok (.if_icmp .ne 69, 3) := by decide +kernel
theorem d3_483 : decode method_5_code 483 = .ok (.new 8, 3) := by decide +kernel
theorem d3_486 : decode method_5_code 486 = .ok (.dup, 1) := by decide +kernel
theorem d3_487 : decode method_5_code 487 = .ok (.bipush 10, 2) := by decide +kernel
theorem d3_489 : decode method_5_code 489 = .ok (.newarray .char, 2) := by decide +kernel
theorem d3_491 : decode method_5_code 491 = .ok (.dup, 1) := by decide +kernel
theorem d3_492 : decode method_5_code 492 = .ok (.iconst 0, 1) := by decide +kernel
theorem d3_493 : decode method_5_code 493 = .ok (.iload 4, 2) := by decide +kernel
theorem d3_495 : decode method_5_code 495 = .ok (.castore, 1) := by decide +kernel
theorem d3_496 : decode method_5_code 496 = .ok (.dup, 1) := by decide +kernel
theorem d3_497 : decode method_5_code 497 = .ok (.iconst 1, 1) := by decide +kernel
theorem d3_498 : decode method_5_code 498 = .ok (.iload 5, 2) := by decide +kernel
theorem d3_500 : decode method_5_code 500 = .ok (.castore, 1) := by decide +kernel
theorem d3_501 : decode method_5_code 501 = .ok (.dup, 1) := by decide +kernel
theorem d3_502 : decode method_5_code 502 = .ok (.iconst 2, 1) := by decide +kernel
theorem d3_503 : decode method_5_code 503 = .ok (.iload 6, 2) := by decide +kernel
theorem d3_505 : decode method_5_code 505 = .ok (.castore, 1) := by decide +kernel
theorem d3_506 : decode method_5_code 506 = .ok (.dup, 1) := by decide +kernel
theorem d3_507 : decode method_5_code 507 = .ok (.iconst 3, 1) := by decide +kernel
theorem d3_508 : decode method_5_code 508 = .ok (.iload 7, 2) := by decide +kernel
theorem d3_510 : decode method_5_code 510 = .ok (.castore, 1) := by decide +kernel
theorem d3_511 : decode method_5_code 511 = .ok (.dup, 1) := by decide +kernel
theorem d3_512 : decode method_5_code 512 = .ok (.iconst 4, 1) := by decide +kernel
theorem d3_513 : decode method_5_code 513 = .ok (.iload 8, 2) := by decide +kernel
theorem d3_515 : decode method_5_code 515 = .ok (.castore, 1) := by decide +kernel
theorem d3_516 : decode method_5_code 516 = .ok (.dup, 1) := by decide +kernel
theorem d3_517 : decode method_5_code 517 = .ok (.iconst 5, 1) := by decide +kernel
theorem d3_518 : decode method_5_code 518 = .ok (.iload 9, 2) := by decide +kernel
theorem d3_520 : decode method_5_code 520 = .ok (.castore, 1) := by decide +kernel
theorem d3_521 : decode method_5_code 521 = .ok (.dup, 1) := by decide +kernel
theorem d3_522 : decode method_5_code 522 = .ok (.bipush 6, 2) := by decide +kernel
theorem d3_524 : decode method_5_code 524 = .ok (.iload 10, 2) := by decide +kernel
theorem d3_526 : decode method_5_code 526 = .ok (.castore, 1) := by decide +kernel
theorem d3_527 : decode method_5_code 527 = .ok (.dup, 1) := by decide +kernel
theorem d3_528 : decode method_5_code 528 = .ok (.bipush 7, 2) := by decide +kernel
theorem d3_530 : decode method_5_code 530 = .ok (.iload 11, 2) := by decide +kernel
theorem d3_532 : decode method_5_code 532 = .ok (.castore, 1) := by decide +kernel
theorem d3_533 : decode method_5_code 533 = .ok (.dup, 1) := by decide +kernel
theorem d3_534 : decode method_5_code 534 = .ok (.bipush 8, 2) := by decide +kernel
theorem d3_536 : decode method_5_code 536 = .ok (.iload 12, 2) := by decide +kernel
theorem d3_538 : decode method_5_code 538 = .ok (.castore, 1) := by decide +kernel
theorem d3_539 : decode method_5_code 539 = .ok (.dup, 1) := by decide +kernel
theorem d3_540 : decode method_5_code 540 = .ok (.bipush 9, 2) := by decide +kernel
theorem d3_542 : decode method_5_code 542 = .ok (.iload 13, 2) := by decide +kernel
theorem d3_544 : decode method_5_code 544 = .ok (.castore, 1) := by decide +kernel
theorem d3_545 : decode method_5_code 545 = .ok (.invokespecial 10, 3) := by decide +kernel
theorem d3_548 : decode method_5_code 548 = .ok (.areturn, 1) := by decide +kernel
def Q3n10 (Z : State) (cs_a0 : List Int32) (w_COMPACT_STRINGS : Int32) (w_SIOOBE_FORMATTER : Value) (a0 : Addr) (p2 : Int32) (p3 : Int32) (h0 : Heap) (n0 : Nat) (v : Option Value) (h : Heap) (L : List Loc) : Prop := ∃ b8 : Addr, ∃ cs_out : List Int32, v = some (.ref b8) ∧ Fr n0 L ∧ Keep h0 h [] ∧ h0.size ≤ b8 ∧ own_Txt Z h b8 cs_out
set_option maxRecDepth 65536 in
set_option maxHeartbeats 40000000 in
theorem rm3n10 (l : Launch) (Z : State) (A0 : Array Value) (hw : ∀ d ∈ tables_1, d.before A0 Z = true) (ws : List Jvm.Cond) (cs_a0 : List Int32) (w_COMPACT_STRINGS : Int32) (w_SIOOBE_FORMATTER : Value) (a0 : Addr) (p2 : Int32) (p3 : Int32) (h0 : Heap) (n0 : Nat) (OLD : Old Z n0 h0) (f_1 : own_Txt Z h0 a0 cs_a0) (c_2 : own_B p3) (f_3 : Sta Z Z.heap "java/lang/String" "COMPACT_STRINGS" "Z" (.int w_COMPACT_STRINGS)) (c_4 : ¬ (w_COMPACT_STRINGS = (0 : Int32))) (f_5 : Sta Z Z.heap "jdk/internal/util/Preconditions" "SIOOBE_FORMATTER" "Ljava/util/function/BiFunction;" w_SIOOBE_FORMATTER) (c_6 : w_SIOOBE_FORMATTER.isRef = true) :
    MetFree l (⟨"com/example/seshat/seshat/jpql/DatabaseNamedPinLaw", "word", "(Ljava/lang/String;IIC)Ljava/lang/String;"⟩ : MethodName) (head1 (Jvm.Cond.code (⟨"com/example/seshat/seshat/jpql/DatabaseNamedPinLaw", "word", "(Ljava/lang/String;IIC)Ljava/lang/String;"⟩ : MethodName) method_5_code 15 (some (.object "java/lang/String")) :: ws) ({ frames := 6, cells := 3, slots := 40, locals := 120 } : Room)) (fun a U => a = #[(.ref a0), (.int (10 : Int32)), (.int p2), (.int p3)] ∧ Z.Warmed39 U.vm ∧ U.heap = h0) (fun _ _ _ _ _ => True) (fun _ U o U' => ∃ v L, o = .returned v ∧ Q3n10 Z cs_a0 w_COMPACT_STRINGS w_SIOOBE_FORMATTER a0 p2 p3 h0 n0 v U'.heap L ∧ FrameEnd U o U' L ({ frames := 6, cells := 3, slots := 40, locals := 120 } : Room).cells ({ frames := 6, cells := 3, slots := 40, locals := 120 } : Room).slots) := by
  refine MetFree.of_bodySF (plainFor_of_name pn_com_example_seshat_seshat_jpql_DatabaseNamedPinLaw) hisR ?_
  intro p e s m args below meth c s₁ Bd hml0 hP hK
  obtain ⟨rfl, hZ, hh⟩ := hP
  have hx := Bd.exec
  have hby := Bd.bytes
  have hml : c.maxLocals = 15 := hml0
  have hown : s.vm.findClass "com/example/seshat/seshat/jpql/DatabaseNamedPinLaw" = some m.cls := findClass_of_methodNamed Bd.named
  have hnm := (name_of_methodNamed Bd.named Bd.method).1
  have X0 : Stand p l e ({ frames := 6, cells := 3, slots := 40, locals := 120 } : Room) s m #[(.ref a0), (.int (10 : Int32)), (.int p2), (.int p3)] below meth c s₁ [] 0 0 := Stand.of_body Bd
  have e0 : s₁.heap = h0 := by rw [← hh, Bd.state]; rfl
  have N0 := Fr.nil n0
  have pre0 : ∀ t, Steps p.tables e below (s₁.setTop (mkF m 0 #[vR a0, vI (10 : Int32), vI p2, vI p3, .unset, .unset, .unset, .unset, .unset, .unset, .unset, .unset, .unset, .unset, .unset] [])) t → Steps p.tables e below (s₁.setTop (entryFrame m #[(.ref a0), (.int (10 : Int32)), (.int p2), (.int p3)] 15)) t := fun t k => castTop (ef_3 m a0 (10 : Int32) p2 p3) k
  obtain ⟨w_7_7, w_8_7, w_9_7, w_10_7, w_11_7, w_12_7, w_13_7, w_14_7, w_15_7, w_16_7, w_17_7, T7, L7, X7, N7, e7, g7_0, g7_1, g7_2, g7_3, g7_4, g7_5, g7_6, g7_7, g7_8, g7_9, g7_10, st7⟩ := rm3s l Z A0 hw cs_a0 w_COMPACT_STRINGS w_SIOOBE_FORMATTER a0 (10 : Int32) p2 p3 h0 n0 OLD f_1 c_2 f_3 c_4 f_5 c_6 X0 hx hZ hby hml hown hh e0
  obtain ⟨T8, h8, X8, e8, E8, A8, D8, M8, st8⟩ := newO X7 hx hZ hown (hw _ (List.mem_of_getElem? (i := 106) rfl)) (hw _ (List.mem_of_getElem? (i := 3) rfl)) (hw _ (List.mem_of_getElem? (i := 2) rfl)) e7 (g := (mkF m 483 #[vR a0, vI (10 : Int32), vI p2, vI p3, vI w_7_7, vI w_8_7, vI w_9_7, vI w_10_7, vI w_11_7, vI w_12_7, vI w_13_7, vI w_14_7, vI w_15_7, vI w_16_7, vI w_17_7] [])) rfl (hb hby d3_483) (by decide) (by decide)
  obtain ⟨b8, g8⟩ : ∃ z, z = h0.size := ⟨_, rfl⟩
  rw [← g8] at A8 D8 M8 st8
  have K_9 : Keep h0 h8 [] := (Keep.refl h0 []).ext E8
  have f_10 : Fld Z h8 b8 "java/lang/String" "value" "[B" .null := (D8 (Or.inr (hw _ (List.mem_of_getElem? (i := 5) rfl))) (ty := (.array .byte)) (by decide))
  have f_11 : Fld Z h8 b8 "java/lang/String" "coder" "B" (.int (0 : Int32)) := (D8 (Or.inr (hw _ (List.mem_of_getElem? (i := 6) rfl))) (ty := .byte) (by decide))
  obtain ⟨T12, h12, k12, X12, e12, E12, A12, st12⟩ := newP X8 hx hZ (hw _ (List.mem_of_getElem? (i := 107) rfl)) e8 (g := (mkF m 489 #[vR a0, vI (10 : Int32), vI p2, vI p3, vI w_7_7, vI w_8_7, vI w_9_7, vI w_10_7, vI w_11_7, vI w_12_7, vI w_13_7, vI w_14_7, vI w_15_7, vI w_16_7, vI w_17_7] [(.int (10 : Int32)), (.ref b8), (.ref b8)])) rfl (hb hby d3_489) rfl (by decide) (cap := 10) (by decide) (by decide) (by decide) (by decide)
  obtain ⟨b12, g12⟩ : ∃ z, z = h8.size := ⟨_, rfl⟩
  rw [← g12] at A12 st12
  have K_13 : Keep h0 h12 [] := K_9.ext E12
  have f_14 : Arv Z h12 b12 k12 .char (10 : Int32) [(.int (0 : Int32)), (.int (0 : Int32)), (.int (0 : Int32)), (.int (0 : Int32)), (.int (0 : Int32)), (.int (0 : Int32)), (.int (0 : Int32)), (.int (0 : Int32)), (.int (0 : Int32)), (.int (0 : Int32))] (.int (0 : Int32)) := (Arv.new A12 (by decide)).pad (pad_rep [] (.int (0 : Int32)) 10)
  obtain ⟨cl15, Ar15, q15, s15, n15, hh15, gg15⟩ := id (f_14)
  have hin15 : ¬ ((0 : Int32) < 0 ∨ cl15.slots.size ≤ ((0 : Int32)).toNatClampNeg) := inb_of s15 ⟨by decide, by decide⟩
  obtain ⟨T16, h16, X16, e16, W16, st16⟩ := stC X12 hx hZ e12 Ar15 (j := (0 : Int32)) hin15 (g := (mkF m 495 #[vR a0, vI (10 : Int32), vI p2, vI p3, vI w_7_7, vI w_8_7, vI w_9_7, vI w_10_7, vI w_11_7, vI w_12_7, vI w_13_7, vI w_14_7, vI w_15_7, vI w_16_7, vI w_17_7] [(.int w_7_7), (.int (0 : Int32)), (.ref b12), (.ref b12), (.ref b8), (.ref b8)])) rfl rfl (hb hby d3_495)
  have O_17 := Old.ext OLD E8
  have ge_18 : n0 ≤ b12 := own_ge O_17 (Nat.le_of_eq g12.symm)
  have N16 := Fr.snoc X16 N7 ge_18
  have f_19 : Arv Z h16 b12 k12 .char (10 : Int32) [(.int (nar .char w_7_7)), (.int (0 : Int32)), (.int (0 : Int32)), (.int (0 : Int32)), (.int (0 : Int32)), (.int (0 : Int32)), (.int (0 : Int32)), (.int (0 : Int32)), (.int (0 : Int32)), (.int (0 : Int32))] (.int (0 : Int32)) := Arv.set Ar15 q15 s15 n15 hh15 gg15 (fits_nar_char _) W16 0 rfl (Nat.le_of_ble_eq_true rfl)
  have K_20 : Keep h0 h16 [] := K_13.wr W16 (Or.inr (Nat.le_trans K_9.1 (Nat.le_of_eq g12.symm)))
  obtain ⟨cl21, Ar21, q21, s21, n21, hh21, gg21⟩ := id (f_19)
  have hin21 : ¬ ((1 : Int32) < 0 ∨ cl21.slots.size ≤ ((1 : Int32)).toNatClampNeg) := inb_of s21 ⟨by decide, by decide⟩
  obtain ⟨T22, h22, X22, e22, W22, st22⟩ := stC X16 hx hZ e16 Ar21 (j := (1 : Int32)) hin21 (g := (mkF m 500 #[vR a0, vI (10 : Int32), vI p2, vI p3, vI w_7_7, vI w_8_7, vI w_9_7, vI w_10_7, vI w_11_7, vI w_12_7, vI w_13_7, vI w_14_7, vI w_15_7, vI w_16_7, vI w_17_7] [(.int w_8_7), (.int (1 : Int32)), (.ref b12), (.ref b12), (.ref b8), (.ref b8)])) rfl rfl (hb hby d3_500)
  have N22 := Fr.snoc X22 N16 ge_18
  have f_23 : Arv Z h22 b12 k12 .char (10 : Int32) [(.int (nar .char w_7_7)), (.int (nar .char w_8_7)), (.int (0 : Int32)), (.int (0 : Int32)), (.int (0 : Int32)), (.int (0 : Int32)), (.int (0 : Int32)), (.int (0 : Int32)), (.int (0 : Int32)), (.int (0 : Int32))] (.int (0 : Int32)) := Arv.set Ar21 q21 s21 n21 hh21 gg21 (fits_nar_char _) W22 1 rfl (Nat.le_of_ble_eq_true rfl)
  have K_24 : Keep h0 h22 [] := K_20.wr W22 (Or.inr (Nat.le_trans K_9.1 (Nat.le_of_eq g12.symm)))
  obtain ⟨cl25, Ar25, q25, s25, n25, hh25, gg25⟩ := id (f_23)
  have hin25 : ¬ ((2 : Int32) < 0 ∨ cl25.slots.size ≤ ((2 : Int32)).toNatClampNeg) := inb_of s25 ⟨by decide, by decide⟩
  obtain ⟨T26, h26, X26, e26, W26, st26⟩ := stC X22 hx hZ e22 Ar25 (j := (2 : Int32)) hin25 (g := (mkF m 505 #[vR a0, vI (10 : Int32), vI p2, vI p3, vI w_7_7, vI w_8_7, vI w_9_7, vI w_10_7, vI w_11_7, vI w_12_7, vI w_13_7, vI w_14_7, vI w_15_7, vI w_16_7, vI w_17_7] [(.int w_9_7), (.int (2 : Int32)), (.ref b12), (.ref b12), (.ref b8), (.ref b8)])) rfl rfl (hb hby d3_505)
  have N26 := Fr.snoc X26 N22 ge_18
  have f_27 : Arv Z h26 b12 k12 .char (10 : Int32) [(.int (nar .char w_7_7)), (.int (nar .char w_8_7)), (.int (nar .char w_9_7)), (.int (0 : Int32)), (.int (0 : Int32)), (.int (0 : Int32)), (.int (0 : Int32)), (.int (0 : Int32)), (.int (0 : Int32)), (.int (0 : Int32))] (.int (0 : Int32)) := Arv.set Ar25 q25 s25 n25 hh25 gg25 (fits_nar_char _) W26 2 rfl (Nat.le_of_ble_eq_true rfl)
  have K_28 : Keep h0 h26 [] := K_24.wr W26 (Or.inr (Nat.le_trans K_9.1 (Nat.le_of_eq g12.symm)))
  obtain ⟨cl29, Ar29, q29, s29, n29, hh29, gg29⟩ := id (f_27)
  have hin29 : ¬ ((3 : Int32) < 0 ∨ cl29.slots.size ≤ ((3 : Int32)).toNatClampNeg) := inb_of s29 ⟨by decide, by decide⟩
  obtain ⟨T30, h30, X30, e30, W30, st30⟩ := stC X26 hx hZ e26 Ar29 (j := (3 : Int32)) hin29 (g := (mkF m 510 #[vR a0, vI (10 : Int32), vI p2, vI p3, vI w_7_7, vI w_8_7, vI w_9_7, vI w_10_7, vI w_11_7, vI w_12_7, vI w_13_7, vI w_14_7, vI w_15_7, vI w_16_7, vI w_17_7] [(.int w_10_7), (.int (3 : Int32)), (.ref b12), (.ref b12), (.ref b8), (.ref b8)])) rfl rfl (hb hby d3_510)
  have N30 := Fr.snoc X30 N26 ge_18
  have f_31 : Arv Z h30 b12 k12 .char (10 : Int32) [(.int (nar .char w_7_7)), (.int (nar .char w_8_7)), (.int (nar .char w_9_7)), (.int (nar .char w_10_7)), (.int (0 : Int32)), (.int (0 : Int32)), (.int (0 : Int32)), (.int (0 : Int32)), (.int (0 : Int32)), (.int (0 : Int32))] (.int (0 : Int32)) := Arv.set Ar29 q29 s29 n29 hh29 gg29 (fits_nar_char _) W30 3 rfl (Nat.le_of_ble_eq_true rfl)
  have K_32 : Keep h0 h30 [] := K_28.wr W30 (Or.inr (Nat.le_trans K_9.1 (Nat.le_of_eq g12.symm)))
  obtain ⟨cl33, Ar33, q33, s33, n33, hh33, gg33⟩ := id (f_31)
  have hin33 : ¬ ((4 : Int32) < 0 ∨ cl33.slots.size ≤ ((4 : Int32)).toNatClampNeg) := inb_of s33 ⟨by decide, by decide⟩
  obtain ⟨T34, h34, X34, e34, W34, st34⟩ := stC X30 hx hZ e30 Ar33 (j := (4 : Int32)) hin33 (g := (mkF m 515 #[vR a0, vI (10 : Int32), vI p2, vI p3, vI w_7_7, vI w_8_7, vI w_9_7, vI w_10_7, vI w_11_7, vI w_12_7, vI w_13_7, vI w_14_7, vI w_15_7, vI w_16_7, vI w_17_7] [(.int w_11_7), (.int (4 : Int32)), (.ref b12), (.ref b12), (.ref b8), (.ref b8)])) rfl rfl (hb hby d3_515)
  have N34 := Fr.snoc X34 N30 ge_18
  have f_35 : Arv Z h34 b12 k12 .char (10 : Int32) [(.int (nar .char w_7_7)), (.int (nar .char w_8_7)), (.int (nar .char w_9_7)), (.int (nar .char w_10_7)), (.int (nar .char w_11_7)), (.int (0 : Int32)), (.int (0 : Int32)), (.int (0 : Int32)), (.int (0 : Int32)), (.int (0 : Int32))] (.int (0 : Int32)) := Arv.set Ar33 q33 s33 n33 hh33 gg33 (fits_nar_char _) W34 4 rfl (Nat.le_of_ble_eq_true rfl)
  have K_36 : Keep h0 h34 [] := K_32.wr W34 (Or.inr (Nat.le_trans K_9.1 (Nat.le_of_eq g12.symm)))
  obtain ⟨cl37, Ar37, q37, s37, n37, hh37, gg37⟩ := id (f_35)
  have hin37 : ¬ ((5 : Int32) < 0 ∨ cl37.slots.size ≤ ((5 : Int32)).toNatClampNeg) := inb_of s37 ⟨by decide, by decide⟩
  obtain ⟨T38, h38, X38, e38, W38, st38⟩ := stC X34 hx hZ e34 Ar37 (j := (5 : Int32)) hin37 (g := (mkF m 520 #[vR a0, vI (10 : Int32), vI p2, vI p3, vI w_7_7, vI w_8_7, vI w_9_7, vI w_10_7, vI w_11_7, vI w_12_7, vI w_13_7, vI w_14_7, vI w_15_7, vI w_16_7, vI w_17_7] [(.int w_12_7), (.int (5 : Int32)), (.ref b12), (.ref b12), (.ref b8), (.ref b8)])) rfl rfl (hb hby d3_520)
  have N38 := Fr.snoc X38 N34 ge_18
  have f_39 : Arv Z h38 b12 k12 .char (10 : Int32) [(.int (nar .char w_7_7)), (.int (nar .char w_8_7)), (.int (nar .char w_9_7)), (.int (nar .char w_10_7)), (.int (nar .char w_11_7)), (.int (nar .char w_12_7)), (.int (0 : Int32)), (.int (0 : Int32)), (.int (0 : Int32)), (.int (0 : Int32))] (.int (0 : Int32)) := Arv.set Ar37 q37 s37 n37 hh37 gg37 (fits_nar_char _) W38 5 rfl (Nat.le_of_ble_eq_true rfl)
  have K_40 : Keep h0 h38 [] := K_36.wr W38 (Or.inr (Nat.le_trans K_9.1 (Nat.le_of_eq g12.symm)))
  obtain ⟨cl41, Ar41, q41, s41, n41, hh41, gg41⟩ := id (f_39)
  have hin41 : ¬ ((6 : Int32) < 0 ∨ cl41.slots.size ≤ ((6 : Int32)).toNatClampNeg) := inb_of s41 ⟨by decide, by decide⟩
  obtain ⟨T42, h42, X42, e42, W42, st42⟩ := stC X38 hx hZ e38 Ar41 (j := (6 : Int32)) hin41 (g := (mkF m 526 #[vR a0, vI (10 : Int32), vI p2, vI p3, vI w_7_7, vI w_8_7, vI w_9_7, vI w_10_7, vI w_11_7, vI w_12_7, vI w_13_7, vI w_14_7, vI w_15_7, vI w_16_7, vI w_17_7] [(.int w_13_7), (.int (6 : Int32)), (.ref b12), (.ref b12), (.ref b8), (.ref b8)])) rfl rfl (hb hby d3_526)
  have N42 := Fr.snoc X42 N38 ge_18
  have f_43 : Arv Z h42 b12 k12 .char (10 : Int32) [(.int (nar .char w_7_7)), (.int (nar .char w_8_7)), (.int (nar .char w_9_7)), (.int (nar .char w_10_7)), (.int (nar .char w_11_7)), (.int (nar .char w_12_7)), (.int (nar .char w_13_7)), (.int (0 : Int32)), (.int (0 : Int32)), (.int (0 : Int32))] (.int (0 : Int32)) := Arv.set Ar41 q41 s41 n41 hh41 gg41 (fits_nar_char _) W42 6 rfl (Nat.le_of_ble_eq_true rfl)
  have K_44 : Keep h0 h42 [] := K_40.wr W42 (Or.inr (Nat.le_trans K_9.1 (Nat.le_of_eq g12.symm)))
  obtain ⟨cl45, Ar45, q45, s45, n45, hh45, gg45⟩ := id (f_43)
  have hin45 : ¬ ((7 : Int32) < 0 ∨ cl45.slots.size ≤ ((7 : Int32)).toNatClampNeg) := inb_of s45 ⟨by decide, by decide⟩
  obtain ⟨T46, h46, X46, e46, W46, st46⟩ := stC X42 hx hZ e42 Ar45 (j := (7 : Int32)) hin45 (g := (mkF m 532 #[vR a0, vI (10 : Int32), vI p2, vI p3, vI w_7_7, vI w_8_7, vI w_9_7, vI w_10_7, vI w_11_7, vI w_12_7, vI w_13_7, vI w_14_7, vI w_15_7, vI w_16_7, vI w_17_7] [(.int w_14_7), (.int (7 : Int32)), (.ref b12), (.ref b12), (.ref b8), (.ref b8)])) rfl rfl (hb hby d3_532)
  have N46 := Fr.snoc X46 N42 ge_18
  have f_47 : Arv Z h46 b12 k12 .char (10 : Int32) [(.int (nar .char w_7_7)), (.int (nar .char w_8_7)), (.int (nar .char w_9_7)), (.int (nar .char w_10_7)), (.int (nar .char w_11_7)), (.int (nar .char w_12_7)), (.int (nar .char w_13_7)), (.int (nar .char w_14_7)), (.int (0 : Int32)), (.int (0 : Int32))] (.int (0 : Int32)) := Arv.set Ar45 q45 s45 n45 hh45 gg45 (fits_nar_char _) W46 7 rfl (Nat.le_of_ble_eq_true rfl)
  have K_48 : Keep h0 h46 [] := K_44.wr W46 (Or.inr (Nat.le_trans K_9.1 (Nat.le_of_eq g12.symm)))
  obtain ⟨cl49, Ar49, q49, s49, n49, hh49, gg49⟩ := id (f_47)
  have hin49 : ¬ ((8 : Int32) < 0 ∨ cl49.slots.size ≤ ((8 : Int32)).toNatClampNeg) := inb_of s49 ⟨by decide, by decide⟩
  obtain ⟨T50, h50, X50, e50, W50, st50⟩ := stC X46 hx hZ e46 Ar49 (j := (8 : Int32)) hin49 (g := (mkF m 538 #[vR a0, vI (10 : Int32), vI p2, vI p3, vI w_7_7, vI w_8_7, vI w_9_7, vI w_10_7, vI w_11_7, vI w_12_7, vI w_13_7, vI w_14_7, vI w_15_7, vI w_16_7, vI w_17_7] [(.int w_15_7), (.int (8 : Int32)), (.ref b12), (.ref b12), (.ref b8), (.ref b8)])) rfl rfl (hb hby d3_538)
  have N50 := Fr.snoc X50 N46 ge_18
  have f_51 : Arv Z h50 b12 k12 .char (10 : Int32) [(.int (nar .char w_7_7)), (.int (nar .char w_8_7)), (.int (nar .char w_9_7)), (.int (nar .char w_10_7)), (.int (nar .char w_11_7)), (.int (nar .char w_12_7)), (.int (nar .char w_13_7)), (.int (nar .char w_14_7)), (.int (nar .char w_15_7)), (.int (0 : Int32))] (.int (0 : Int32)) := Arv.set Ar49 q49 s49 n49 hh49 gg49 (fits_nar_char _) W50 8 rfl (Nat.le_of_ble_eq_true rfl)
  have K_52 : Keep h0 h50 [] := K_48.wr W50 (Or.inr (Nat.le_trans K_9.1 (Nat.le_of_eq g12.symm)))
  obtain ⟨cl53, Ar53, q53, s53, n53, hh53, gg53⟩ := id (f_51)
  have hin53 : ¬ ((9 : Int32) < 0 ∨ cl53.slots.size ≤ ((9 : Int32)).toNatClampNeg) := inb_of s53 ⟨by decide, by decide⟩
  obtain ⟨T54, h54, X54, e54, W54, st54⟩ := stC X50 hx hZ e50 Ar53 (j := (9 : Int32)) hin53 (g := (mkF m 544 #[vR a0, vI (10 : Int32), vI p2, vI p3, vI w_7_7, vI w_8_7, vI w_9_7, vI w_10_7, vI w_11_7, vI w_12_7, vI w_13_7, vI w_14_7, vI w_15_7, vI w_16_7, vI w_17_7] [(.int w_16_7), (.int (9 : Int32)), (.ref b12), (.ref b12), (.ref b8), (.ref b8)])) rfl rfl (hb hby d3_544)
  have N54 := Fr.snoc X54 N50 ge_18
  have f_55 : Arv Z h54 b12 k12 .char (10 : Int32) [(.int (nar .char w_7_7)), (.int (nar .char w_8_7)), (.int (nar .char w_9_7)), (.int (nar .char w_10_7)), (.int (nar .char w_11_7)), (.int (nar .char w_12_7)), (.int (nar .char w_13_7)), (.int (nar .char w_14_7)), (.int (nar .char w_15_7)), (.int (nar .char w_16_7))] (.int (0 : Int32)) := Arv.set Ar53 q53 s53 n53 hh53 gg53 (fits_nar_char _) W54 9 rfl (Nat.le_of_ble_eq_true rfl)
  have K_56 : Keep h0 h54 [] := K_52.wr W54 (Or.inr (Nat.le_trans K_9.1 (Nat.le_of_eq g12.symm)))
  have O_57 := Old.ext O_17 E12
  have O_58 := Old.wr O_57 W16 ge_18
  have O_59 := Old.wr O_58 W22 ge_18
  have O_60 := Old.wr O_59 W26 ge_18
  have O_61 := Old.wr O_60 W30 ge_18
  have O_62 := Old.wr O_61 W34 ge_18
  have O_63 := Old.wr O_62 W38 ge_18
  have O_64 := Old.wr O_63 W42 ge_18
  have O_65 := Old.wr O_64 W46 ge_18
  have O_66 := Old.wr O_65 W50 ge_18
  have O_67 := Old.wr O_66 W54 ge_18
  have ge_68 : n0 ≤ b8 := own_ge OLD (Nat.le_of_eq g8.symm)
  have f_69 := A8.ext E12
  have f_70 := f_69.wr W16
  have f_71 := f_70.wr W22
  have f_72 := f_71.wr W26
  have f_73 := f_72.wr W30
  have f_74 := f_73.wr W34
  have f_75 := f_74.wr W38
  have f_76 := f_75.wr W42
  have f_77 := f_76.wr W46
  have f_78 := f_77.wr W50
  have f_79 := f_78.wr W54
  have f_80 := f_10.ext E12
  have ne_81 : b8 ≠ b12 := Nat.ne_of_lt (Nat.lt_of_lt_of_le A8.lt (Nat.le_of_eq g12.symm))
  have f_82 := f_80.other W16 (Or.inl ne_81)
  have f_83 := f_82.other W22 (Or.inl ne_81)
  have f_84 := f_83.other W26 (Or.inl ne_81)
  have f_85 := f_84.other W30 (Or.inl ne_81)
  have f_86 := f_85.other W34 (Or.inl ne_81)
  have f_87 := f_86.other W38 (Or.inl ne_81)
  have f_88 := f_87.other W42 (Or.inl ne_81)
  have f_89 := f_88.other W46 (Or.inl ne_81)
  have f_90 := f_89.other W50 (Or.inl ne_81)
  have f_91 := f_90.other W54 (Or.inl ne_81)
  have f_92 := f_11.ext E12
  have f_93 := f_92.other W16 (Or.inl ne_81)
  have f_94 := f_93.other W22 (Or.inl ne_81)
  have f_95 := f_94.other W26 (Or.inl ne_81)
  have f_96 := f_95.other W30 (Or.inl ne_81)
  have f_97 := f_96.other W34 (Or.inl ne_81)
  have f_98 := f_97.other W38 (Or.inl ne_81)
  have f_99 := f_98.other W42 (Or.inl ne_81)
  have f_100 := f_99.other W46 (Or.inl ne_81)
  have f_101 := f_100.other W50 (Or.inl ne_81)
  have f_102 := f_101.other W54 (Or.inl ne_81)
  obtain ⟨_, _, ⟨T103, L103, k103, n103⟩, -, X103, ⟨Lc103, hQ103, l103, y103, z103⟩, st103⟩ := X54.specialBack hx (y := (⟨"java/lang/String", "<init>", "([C)V"⟩ : MethodName)) rfl hown (mvT hZ (hw _ (List.mem_of_getElem? (i := 108) rfl))) (mvT hZ (hw _ (List.mem_of_getElem? (i := 109) rfl))) (mvT hZ (hw _ (List.mem_of_getElem? (i := 110) rfl))) (by decide) (own_newB (W := 1) (n := 10) (cs := ([(nar .char w_7_7), (nar .char w_8_7), (nar .char w_9_7), (nar .char w_10_7), (nar .char w_11_7), (nar .char w_12_7), (nar .char w_13_7), (nar .char w_14_7), (nar .char w_15_7), (nar .char w_16_7)] : List Int32)) hZ hw O_67 f_3 c_4 ge_68 f_79 f_91 f_102 f_55 rfl (by decide) (by decide) (own_cS (own_bn g7_0) (own_cS (own_bn g7_1) (own_cS (own_bn g7_2) (own_cS (own_bn g7_3) (own_cS (own_bn g7_4) (own_cS (own_bn g7_5) (own_cS (own_bn g7_6) (own_cS (own_bn g7_7) (own_cS (own_bn g7_8) (own_cS (own_bn g7_9) own_c0)))))))))) (by decide) (by decide)) (g := (mkF m 545 #[vR a0, vI (10 : Int32), vI p2, vI p3, vI w_7_7, vI w_8_7, vI w_9_7, vI w_10_7, vI w_11_7, vI w_12_7, vI w_13_7, vI w_14_7, vI w_15_7, vI w_16_7, vI w_17_7] [(.ref b12), (.ref b8), (.ref b8)])) rfl (by rw [hml]; rfl) (Steps.refl _) (a := b8) (argsL := [(.ref b12)]) (rest := [(.ref b8)]) (lenOf pd_7 rfl) rfl (by show 2 * 0 + _ ≤ _; exact Nat.le_of_eq rfl) (hb hby d3_545) (fun _ _ => ⟨rfl, e54, (by decide : 2 + 1 ≤ _), (by decide : 14 + 10 ≤ _)⟩)
  dsimp only [Pt.U, Pt.locs, Pt.cells, Pt.slots] at X103 l103 y103 z103 st103 hQ103
  subst l103 y103 z103
  obtain ⟨rfl, N103q, K103, g103_0⟩ := hQ103
  have N103 := Fr.app N54 N103q
  have K_104 : Keep h0 T103.heap [] := Keep.trans K_56 K103 (allS (Or.inr (Nat.le_trans (Keep.refl h0 []).1 (Nat.le_of_eq g8.symm))) all0)
  have f_105 := f_79.keep K103
  obtain ⟨fs, hr, hrun, hended, hW, hsame⟩ := X103.leave (v := some (.ref b8)) (fun h => by rw [Bd.returns] at h; cases h)
  refine ⟨_, _, pre0 _ ?_, hrun, hended, _, _, rfl, ?_, ⟨_, rfl⟩, hW, hsame.mono (by decide) (by decide)⟩
  · show Steps p.tables e below (s₁.setTop (mkF m 0 #[vR a0, vI (10 : Int32), vI p2, vI p3, .unset, .unset, .unset, .unset, .unset, .unset, .unset, .unset, .unset, .unset, .unset] [])) _
    refine st7 _ ?_
    show Steps p.tables e below (T7.setTop (mkF m 104 #[vR a0, vI (10 : Int32), vI p2, vI p3, vI w_7_7, vI w_8_7, vI w_9_7, vI w_10_7, vI w_11_7, vI w_12_7, vI w_13_7, vI w_14_7, vI w_15_7, vI w_16_7, vI w_17_7] [])) _
    refine XS.iloadN X7.here hx rfl (hb hby d3_104) rfl ?_
    refine XS.iconst X7.here hx rfl (hb hby d3_105) ?_
    show Steps p.tables e below (T7.setTop (mkF m 106 #[vR a0, vI (10 : Int32), vI p2, vI p3, vI w_7_7, vI w_8_7, vI w_9_7, vI w_10_7, vI w_11_7, vI w_12_7, vI w_13_7, vI w_14_7, vI w_15_7, vI w_16_7, vI w_17_7] [(.int (1 : Int32)), (.int (10 : Int32))])) _
    refine XS.icmpYes X7.here hx rfl (pc0 := 106) (pc' := 115) rfl (hb hby d3_106) rfl (feq (by decide : ¬ ((10 : Int32) = (1 : Int32)))).2 (by decide) (by decide) ?_
    refine XS.iloadN X7.here hx rfl (hb hby d3_115) rfl ?_
    show Steps p.tables e below (T7.setTop (mkF m 116 #[vR a0, vI (10 : Int32), vI p2, vI p3, vI w_7_7, vI w_8_7, vI w_9_7, vI w_10_7, vI w_11_7, vI w_12_7, vI w_13_7, vI w_14_7, vI w_15_7, vI w_16_7, vI w_17_7] [(.int (10 : Int32))])) _
    refine XS.iconst X7.here hx rfl (hb hby d3_116) ?_
    refine XS.icmpYes X7.here hx rfl (pc0 := 117) (pc' := 141) rfl (hb hby d3_117) rfl (feq (by decide : ¬ ((10 : Int32) = (2 : Int32)))).2 (by decide) (by decide) ?_
    show Steps p.tables e below (T7.setTop (mkF m 141 #[vR a0, vI (10 : Int32), vI p2, vI p3, vI w_7_7, vI w_8_7, vI w_9_7, vI w_10_7, vI w_11_7, vI w_12_7, vI w_13_7, vI w_14_7, vI w_15_7, vI w_16_7, vI w_17_7] [])) _
    refine XS.iloadN X7.here hx rfl (hb hby d3_141) rfl ?_
    refine XS.iconst X7.here hx rfl (hb hby d3_142) ?_
    show Steps p.tables e below (T7.setTop (mkF m 143 #[vR a0, vI (10 : Int32), vI p2, vI p3, vI w_7_7, vI w_8_7, vI w_9_7, vI w_10_7, vI w_11_7, vI w_12_7, vI w_13_7, vI w_14_7, vI w_15_7, vI w_16_7, vI w_17_7] [(.int (3 : Int32)), (.int (10 : Int32))])) _
    refine XS.icmpYes X7.here hx rfl (pc0 := 143) (pc' := 172) rfl (hb hby d3_143) rfl (feq (by decide : ¬ ((10 : Int32) = (3 : Int32)))).2 (by decide) (by decide) ?_
    refine XS.iloadN X7.here hx rfl (hb hby d3_172) rfl ?_
    show Steps p.tables e below (T7.setTop (mkF m 173 #[vR a0, vI (10 : Int32), vI p2, vI p3, vI w_7_7, vI w_8_7, vI w_9_7, vI w_10_7, vI w_11_7, vI w_12_7, vI w_13_7, vI w_14_7, vI w_15_7, vI w_16_7, vI w_17_7] [(.int (10 : Int32))])) _
    refine XS.iconst X7.here hx rfl (hb hby d3_173) ?_
    refine XS.icmpYes X7.here hx rfl (pc0 := 174) (pc' := 208) rfl (hb hby d3_174) rfl (feq (by decide : ¬ ((10 : Int32) = (4 : Int32)))).2 (by decide) (by decide) ?_
    show Steps p.tables e below (T7.setTop (mkF m 208 #[vR a0, vI (10 : Int32), vI p2, vI p3, vI w_7_7, vI w_8_7, vI w_9_7, vI w_10_7, vI w_11_7, vI w_12_7, vI w_13_7, vI w_14_7, vI w_15_7, vI w_16_7, vI w_17_7] [])) _
    refine XS.iloadN X7.here hx rfl (hb hby d3_208) rfl ?_
    refine XS.iconst X7.here hx rfl (hb hby d3_209) ?_
    show Steps p.tables e below (T7.setTop (mkF m 210 #[vR a0, vI (10 : Int32), vI p2, vI p3, vI w_7_7, vI w_8_7, vI w_9_7, vI w_10_7, vI w_11_7, vI w_12_7, vI w_13_7, vI w_14_7, vI w_15_7, vI w_16_7, vI w_17_7] [(.int (5 : Int32)), (.int (10 : Int32))])) _
    refine XS.icmpYes X7.here hx rfl (pc0 := 210) (pc' := 249) rfl (hb hby d3_210) rfl (feq (by decide : ¬ ((10 : Int32) = (5 : Int32)))).2 (by decide) (by decide) ?_
    refine XS.iloadN X7.here hx rfl (hb hby d3_249) rfl ?_
    show Steps p.tables e below (T7.setTop (mkF m 250 #[vR a0, vI (10 : Int32), vI p2, vI p3, vI w_7_7, vI w_8_7, vI w_9_7, vI w_10_7, vI w_11_7, vI w_12_7, vI w_13_7, vI w_14_7, vI w_15_7, vI w_16_7, vI w_17_7] [(.int (10 : Int32))])) _
    refine XS.bipush X7.here hx rfl (hb hby d3_250) ?_
    refine XS.icmpYes X7.here hx rfl (pc0 := 252) (pc' := 297) rfl (hb hby d3_252) rfl (feq (by decide : ¬ ((10 : Int32) = (6 : Int32)))).2 (by decide) (by decide) ?_
    show Steps p.tables e below (T7.setTop (mkF m 297 #[vR a0, vI (10 : Int32), vI p2, vI p3, vI w_7_7, vI w_8_7, vI w_9_7, vI w_10_7, vI w_11_7, vI w_12_7, vI w_13_7, vI w_14_7, vI w_15_7, vI w_16_7, vI w_17_7] [])) _
    refine XS.iloadN X7.here hx rfl (hb hby d3_297) rfl ?_
    refine XS.bipush X7.here hx rfl (hb hby d3_298) ?_
    show Steps p.tables e below (T7.setTop (mkF m 300 #[vR a0, vI (10 : Int32), vI p2, vI p3, vI w_7_7, vI w_8_7, vI w_9_7, vI w_10_7, vI w_11_7, vI w_12_7, vI w_13_7, vI w_14_7, vI w_15_7, vI w_16_7, vI w_17_7] [(.int (7 : Int32)), (.int (10 : Int32))])) _
    refine XS.icmpYes X7.here hx rfl (pc0 := 300) (pc' := 351) rfl (hb hby d3_300) rfl (feq (by decide : ¬ ((10 : Int32) = (7 : Int32)))).2 (by decide) (by decide) ?_
    refine XS.iloadN X7.here hx rfl (hb hby d3_351) rfl ?_
    show Steps p.tables e below (T7.setTop (mkF m 352 #[vR a0, vI (10 : Int32), vI p2, vI p3, vI w_7_7, vI w_8_7, vI w_9_7, vI w_10_7, vI w_11_7, vI w_12_7, vI w_13_7, vI w_14_7, vI w_15_7, vI w_16_7, vI w_17_7] [(.int (10 : Int32))])) _
    refine XS.bipush X7.here hx rfl (hb hby d3_352) ?_
    refine XS.icmpYes X7.here hx rfl (pc0 := 354) (pc' := 411) rfl (hb hby d3_354) rfl (feq (by decide : ¬ ((10 : Int32) = (8 : Int32)))).2 (by decide) (by decide) ?_
    show Steps p.tables e below (T7.setTop (mkF m 411 #[vR a0, vI (10 : Int32), vI p2, vI p3, vI w_7_7, vI w_8_7, vI w_9_7, vI w_10_7, vI w_11_7, vI w_12_7, vI w_13_7, vI w_14_7, vI w_15_7, vI w_16_7, vI w_17_7] [])) _
    refine XS.iloadN X7.here hx rfl (hb hby d3_411) rfl ?_
    refine XS.bipush X7.here hx rfl (hb hby d3_412) ?_
    show Steps p.tables e below (T7.setTop (mkF m 414 #[vR a0, vI (10 : Int32), vI p2, vI p3, vI w_7_7, vI w_8_7, vI w_9_7, vI w_10_7, vI w_11_7, vI w_12_7, vI w_13_7, vI w_14_7, vI w_15_7, vI w_16_7, vI w_17_7] [(.int (9 : Int32)), (.int (10 : Int32))])) _
    refine XS.icmpYes X7.here hx rfl (pc0 := 414) (pc' := 477) rfl (hb hby d3_414) rfl (feq (by decide : ¬ ((10 : Int32) = (9 : Int32)))).2 (by decide) (by decide) ?_
    refine XS.iloadN X7.here hx rfl (hb hby d3_477) rfl ?_
    show Steps p.tables e below (T7.setTop (mkF m 478 #[vR a0, vI (10 : Int32), vI p2, vI p3, vI w_7_7, vI w_8_7, vI w_9_7, vI w_10_7, vI w_11_7, vI w_12_7, vI w_13_7, vI w_14_7, vI w_15_7, vI w_16_7, vI w_17_7] [(.int (10 : Int32))])) _
    refine XS.bipush X7.here hx rfl (hb hby d3_478) ?_
    refine XS.icmpNo X7.here hx rfl (hb hby d3_480) rfl (teq (by decide : (10 : Int32) = (10 : Int32))).2 ?_
    show Steps p.tables e below (T7.setTop (mkF m 483 #[vR a0, vI (10 : Int32), vI p2, vI p3, vI w_7_7, vI w_8_7, vI w_9_7, vI w_10_7, vI w_11_7, vI w_12_7, vI w_13_7, vI w_14_7, vI w_15_7, vI w_16_7, vI w_17_7] [])) _
    refine st8 _ ?_
    refine XS.dup X8.here hx rfl (hb hby d3_486) rfl rfl ?_
    show Steps p.tables e below (T8.setTop (mkF m 487 #[vR a0, vI (10 : Int32), vI p2, vI p3, vI w_7_7, vI w_8_7, vI w_9_7, vI w_10_7, vI w_11_7, vI w_12_7, vI w_13_7, vI w_14_7, vI w_15_7, vI w_16_7, vI w_17_7] [(.ref b8), (.ref b8)])) _
    refine XS.bipush X8.here hx rfl (hb hby d3_487) ?_
    refine st12 _ ?_
    show Steps p.tables e below (T12.setTop (mkF m 491 #[vR a0, vI (10 : Int32), vI p2, vI p3, vI w_7_7, vI w_8_7, vI w_9_7, vI w_10_7, vI w_11_7, vI w_12_7, vI w_13_7, vI w_14_7, vI w_15_7, vI w_16_7, vI w_17_7] [(.ref b12), (.ref b8), (.ref b8)])) _
    refine XS.dup X12.here hx rfl (hb hby d3_491) rfl rfl ?_
    refine XS.iconst X12.here hx rfl (hb hby d3_492) ?_
    show Steps p.tables e below (T12.setTop (mkF m 493 #[vR a0, vI (10 : Int32), vI p2, vI p3, vI w_7_7, vI w_8_7, vI w_9_7, vI w_10_7, vI w_11_7, vI w_12_7, vI w_13_7, vI w_14_7, vI w_15_7, vI w_16_7, vI w_17_7] [(.int (0 : Int32)), (.ref b12), (.ref b12), (.ref b8), (.ref b8)])) _
    refine XS.iload X12.here hx rfl (hb hby d3_493) rfl ?_
    refine st16 _ ?_
    show Steps p.tables e below (T16.setTop (mkF m 496 #[vR a0, vI (10 : Int32), vI p2, vI p3, vI w_7_7, vI w_8_7, vI w_9_7, vI w_10_7, vI w_11_7, vI w_12_7, vI w_13_7, vI w_14_7, vI w_15_7, vI w_16_7, vI w_17_7] [(.ref b12), (.ref b8), (.ref b8)])) _
    refine XS.dup X16.here hx rfl (hb hby d3_496) rfl rfl ?_
    refine XS.iconst X16.here hx rfl (hb hby d3_497) ?_
    show Steps p.tables e below (T16.setTop (mkF m 498 #[vR a0, vI (10 : Int32), vI p2, vI p3, vI w_7_7, vI w_8_7, vI w_9_7, vI w_10_7, vI w_11_7, vI w_12_7, vI w_13_7, vI w_14_7, vI w_15_7, vI w_16_7, vI w_17_7] [(.int (1 : Int32)), (.ref b12), (.ref b12), (.ref b8), (.ref b8)])) _
    refine XS.iload X16.here hx rfl (hb hby d3_498) rfl ?_
    refine st22 _ ?_
    show Steps p.tables e below (T22.setTop (mkF m 501 #[vR a0, vI (10 : Int32), vI p2, vI p3, vI w_7_7, vI w_8_7, vI w_9_7, vI w_10_7, vI w_11_7, vI w_12_7, vI w_13_7, vI w_14_7, vI w_15_7, vI w_16_7, vI w_17_7] [(.ref b12), (.ref b8), (.ref b8)])) _
    refine XS.dup X22.here hx rfl (hb hby d3_501) rfl rfl ?_
    refine XS.iconst X22.here hx rfl (hb hby d3_502) ?_
    show Steps p.tables e below (T22.setTop (mkF m 503 #[vR a0, vI (10 : Int32), vI p2, vI p3, vI w_7_7, vI w_8_7, vI w_9_7, vI w_10_7, vI w_11_7, vI w_12_7, vI w_13_7, vI w_14_7, vI w_15_7, vI w_16_7, vI w_17_7] [(.int (2 : Int32)), (.ref b12), (.ref b12), (.ref b8), (.ref b8)])) _
    refine XS.iload X22.here hx rfl (hb hby d3_503) rfl ?_
    refine st26 _ ?_
    show Steps p.tables e below (T26.setTop (mkF m 506 #[vR a0, vI (10 : Int32), vI p2, vI p3, vI w_7_7, vI w_8_7, vI w_9_7, vI w_10_7, vI w_11_7, vI w_12_7, vI w_13_7, vI w_14_7, vI w_15_7, vI w_16_7, vI w_17_7] [(.ref b12), (.ref b8), (.ref b8)])) _
    refine XS.dup X26.here hx rfl (hb hby d3_506) rfl rfl ?_
    refine XS.iconst X26.here hx rfl (hb hby d3_507) ?_
    show Steps p.tables e below (T26.setTop (mkF m 508 #[vR a0, vI (10 : Int32), vI p2, vI p3, vI w_7_7, vI w_8_7, vI w_9_7, vI w_10_7, vI w_11_7, vI w_12_7, vI w_13_7, vI w_14_7, vI w_15_7, vI w_16_7, vI w_17_7] [(.int (3 : Int32)), (.ref b12), (.ref b12), (.ref b8), (.ref b8)])) _
    refine XS.iload X26.here hx rfl (hb hby d3_508) rfl ?_
    refine st30 _ ?_
    show Steps p.tables e below (T30.setTop (mkF m 511 #[vR a0, vI (10 : Int32), vI p2, vI p3, vI w_7_7, vI w_8_7, vI w_9_7, vI w_10_7, vI w_11_7, vI w_12_7, vI w_13_7, vI w_14_7, vI w_15_7, vI w_16_7, vI w_17_7] [(.ref b12), (.ref b8), (.ref b8)])) _
    refine XS.dup X30.here hx rfl (hb hby d3_511) rfl rfl ?_
    refine XS.iconst X30.here hx rfl (hb hby d3_512) ?_
    show Steps p.tables e below (T30.setTop (mkF m 513 #[vR a0, vI (10 : Int32), vI p2, vI p3, vI w_7_7, vI w_8_7, vI w_9_7, vI w_10_7, vI w_11_7, vI w_12_7, vI w_13_7, vI w_14_7, vI w_15_7, vI w_16_7, vI w_17_7] [(.int (4 : Int32)), (.ref b12), (.ref b12), (.ref b8), (.ref b8)])) _
    refine XS.iload X30.here hx rfl (hb hby d3_513) rfl ?_
    refine st34 _ ?_
    show Steps p.tables e below (T34.setTop (mkF m 516 #[vR a0, vI (10 : Int32), vI p2, vI p3, vI w_7_7, vI w_8_7, vI w_9_7, vI w_10_7, vI w_11_7, vI w_12_7, vI w_13_7, vI w_14_7, vI w_15_7, vI w_16_7, vI w_17_7] [(.ref b12), (.ref b8), (.ref b8)])) _
    refine XS.dup X34.here hx rfl (hb hby d3_516) rfl rfl ?_
    refine XS.iconst X34.here hx rfl (hb hby d3_517) ?_
    show Steps p.tables e below (T34.setTop (mkF m 518 #[vR a0, vI (10 : Int32), vI p2, vI p3, vI w_7_7, vI w_8_7, vI w_9_7, vI w_10_7, vI w_11_7, vI w_12_7, vI w_13_7, vI w_14_7, vI w_15_7, vI w_16_7, vI w_17_7] [(.int (5 : Int32)), (.ref b12), (.ref b12), (.ref b8), (.ref b8)])) _
    refine XS.iload X34.here hx rfl (hb hby d3_518) rfl ?_
    refine st38 _ ?_
    show Steps p.tables e below (T38.setTop (mkF m 521 #[vR a0, vI (10 : Int32), vI p2, vI p3, vI w_7_7, vI w_8_7, vI w_9_7, vI w_10_7, vI w_11_7, vI w_12_7, vI w_13_7, vI w_14_7, vI w_15_7, vI w_16_7, vI w_17_7] [(.ref b12), (.ref b8), (.ref b8)])) _
    refine XS.dup X38.here hx rfl (hb hby d3_521) rfl rfl ?_
    refine XS.bipush X38.here hx rfl (hb hby d3_522) ?_
    show Steps p.tables e below (T38.setTop (mkF m 524 #[vR a0, vI (10 : Int32), vI p2, vI p3, vI w_7_7, vI w_8_7, vI w_9_7, vI w_10_7, vI w_11_7, vI w_12_7, vI w_13_7, vI w_14_7, vI w_15_7, vI w_16_7, vI w_17_7] [(.int (6 : Int32)), (.ref b12), (.ref b12), (.ref b8), (.ref b8)])) _
    refine XS.iload X38.here hx rfl (hb hby d3_524) rfl ?_
    refine st42 _ ?_
    show Steps p.tables e below (T42.setTop (mkF m 527 #[vR a0, vI (10 : Int32), vI p2, vI p3, vI w_7_7, vI w_8_7, vI w_9_7, vI w_10_7, vI w_11_7, vI w_12_7, vI w_13_7, vI w_14_7, vI w_15_7, vI w_16_7, vI w_17_7] [(.ref b12), (.ref b8), (.ref b8)])) _
    refine XS.dup X42.here hx rfl (hb hby d3_527) rfl rfl ?_
    refine XS.bipush X42.here hx rfl (hb hby d3_528) ?_
    show Steps p.tables e below (T42.setTop (mkF m 530 #[vR a0, vI (10 : Int32), vI p2, vI p3, vI w_7_7, vI w_8_7, vI w_9_7, vI w_10_7, vI w_11_7, vI w_12_7, vI w_13_7, vI w_14_7, vI w_15_7, vI w_16_7, vI w_17_7] [(.int (7 : Int32)), (.ref b12), (.ref b12), (.ref b8), (.ref b8)])) _
    refine XS.iload X42.here hx rfl (hb hby d3_530) rfl ?_
    refine st46 _ ?_
    show Steps p.tables e below (T46.setTop (mkF m 533 #[vR a0, vI (10 : Int32), vI p2, vI p3, vI w_7_7, vI w_8_7, vI w_9_7, vI w_10_7, vI w_11_7, vI w_12_7, vI w_13_7, vI w_14_7, vI w_15_7, vI w_16_7, vI w_17_7] [(.ref b12), (.ref b8), (.ref b8)])) _
    refine XS.dup X46.here hx rfl (hb hby d3_533) rfl rfl ?_
    refine XS.bipush X46.here hx rfl (hb hby d3_534) ?_
    show Steps p.tables e below (T46.setTop (mkF m 536 #[vR a0, vI (10 : Int32), vI p2, vI p3, vI w_7_7, vI w_8_7, vI w_9_7, vI w_10_7, vI w_11_7, vI w_12_7, vI w_13_7, vI w_14_7, vI w_15_7, vI w_16_7, vI w_17_7] [(.int (8 : Int32)), (.ref b12), (.ref b12), (.ref b8), (.ref b8)])) _
    refine XS.iload X46.here hx rfl (hb hby d3_536) rfl ?_
    refine st50 _ ?_
    show Steps p.tables e below (T50.setTop (mkF m 539 #[vR a0, vI (10 : Int32), vI p2, vI p3, vI w_7_7, vI w_8_7, vI w_9_7, vI w_10_7, vI w_11_7, vI w_12_7, vI w_13_7, vI w_14_7, vI w_15_7, vI w_16_7, vI w_17_7] [(.ref b12), (.ref b8), (.ref b8)])) _
    refine XS.dup X50.here hx rfl (hb hby d3_539) rfl rfl ?_
    refine XS.bipush X50.here hx rfl (hb hby d3_540) ?_
    show Steps p.tables e below (T50.setTop (mkF m 542 #[vR a0, vI (10 : Int32), vI p2, vI p3, vI w_7_7, vI w_8_7, vI w_9_7, vI w_10_7, vI w_11_7, vI w_12_7, vI w_13_7, vI w_14_7, vI w_15_7, vI w_16_7, vI w_17_7] [(.int (9 : Int32)), (.ref b12), (.ref b12), (.ref b8), (.ref b8)])) _
    refine XS.iload X50.here hx rfl (hb hby d3_542) rfl ?_
    refine st54 _ ?_
    show Steps p.tables e below (T54.setTop (mkF m 545 #[vR a0, vI (10 : Int32), vI p2, vI p3, vI w_7_7, vI w_8_7, vI w_9_7, vI w_10_7, vI w_11_7, vI w_12_7, vI w_13_7, vI w_14_7, vI w_15_7, vI w_16_7, vI w_17_7] [(.ref b12), (.ref b8), (.ref b8)])) _
    refine st103.trans ?_
    show Steps p.tables e below (T103.setTop (mkF m 548 #[vR a0, vI (10 : Int32), vI p2, vI p3, vI w_7_7, vI w_8_7, vI w_9_7, vI w_10_7, vI w_11_7, vI w_12_7, vI w_13_7, vI w_14_7, vI w_15_7, vI w_16_7, vI w_17_7] [(.ref b8)])) _
    jvm_step X103.here [X103.here.top, hx, (hb hby d3_548), X103.method', Bd.returns, Value.isRef, FieldType.isReference]
    first | (intro acts; rw [hr _ acts rfl rfl rfl]) | rw [hr _ _ rfl rfl rfl]
    exact Steps.refl _
  · show Q3n10 Z cs_a0 w_COMPACT_STRINGS w_SIOOBE_FORMATTER a0 p2 p3 h0 n0 _ T103.heap _
    exact ⟨b8, ([(nar .char w_7_7), (nar .char w_8_7), (nar .char w_9_7), (nar .char w_10_7), (nar .char w_11_7), (nar .char w_12_7), (nar .char w_13_7), (nar .char w_14_7), (nar .char w_15_7), (nar .char w_16_7)] : List Int32), rfl, N103, K_104, (Nat.le_trans (Keep.refl h0 []).1 (Nat.le_of_eq g8.symm)), g103_0⟩
theorem d3_549 : decode method_5_code 549 = .ok (.iload_n 1, 1) := by decide +kernel
theorem d3_550 : decode method_5_code 550 = .ok (.bipush 11, 2) := by decide +kernel
theorem d3_552 : decode method_5_code 552 = .ok (.if_icmp .ne 75, 3) := by decide +kernel
theorem d3_555 : decode method_5_code 555 = .ok (.new 8, 3) := by decide +kernel
theorem d3_558 : decode method_5_code 558 = .ok (.dup, 1) := by decide +kernel
theorem d3_559 : decode method_5_code 559 = .ok (.bipush 11, 2) := by decide +kernel
theorem d3_561 : decode method_5_code 561 = .ok (.newarray .char, 2) := by decide +kernel
theorem d3_563 : decode method_5_code 563 = .ok (.dup, 1) := by decide +kernel
theorem d3_564 : decode method_5_code 564 = .ok (.iconst 0, 1) := by decide +kernel
theorem d3_565 : decode method_5_code 565 = .ok (.iload 4, 2) := by decide +kernel
theorem d3_567 : decode method_5_code 567 = .ok (.castore, 1) := by decide +kernel
theorem d3_568 : decode method_5_code 568 = .ok (.dup, 1) := by decide +kernel
theorem d3_569 : decode method_5_code 569 = .ok (.iconst 1, 1) := by decide +kernel
theorem d3_570 : decode method_5_code 570 = .ok (.iload 5, 2) := by decide +kernel
theorem d3_572 : decode method_5_code 572 = .ok (.castore, 1) := by decide +kernel
theorem d3_573 : decode method_5_code 573 = .ok (.dup, 1) := by decide +kernel
theorem d3_574 : decode method_5_code 574 = .ok (.iconst 2, 1) := by decide +kernel
theorem d3_575 : decode method_5_code 575 = .ok (.iload 6, 2) := by decide +kernel
theorem d3_577 : decode method_5_code 577 = .ok (.castore, 1) := by decide +kernel
theorem d3_578 : decode method_5_code 578 = .ok (.dup, 1) := by decide +kernel
theorem d3_579 : decode method_5_code 579 = .ok (.iconst 3, 1) := by decide +kernel
theorem d3_580 : decode method_5_code 580 = .ok (.iload 7, 2) := by decide +kernel
theorem d3_582 : decode method_5_code 582 = .ok (.castore, 1) := by decide +kernel
theorem d3_583 : decode method_5_code 583 = .ok (.dup, 1) := by decide +kernel
theorem d3_584 : decode method_5_code 584 = .ok (.iconst 4, 1) := by decide +kernel
theorem d3_585 : decode method_5_code 585 = .ok (.iload 8, 2) := by decide +kernel
theorem d3_587 : decode method_5_code 587 = .ok (.castore, 1) := by decide +kernel
theorem d3_588 : decode method_5_code 588 = .ok (.dup, 1) := by decide +kernel
theorem d3_589 : decode method_5_code 589 = .ok (.iconst 5, 1) := by decide +kernel
theorem d3_590 : decode method_5_code 590 = .ok (.iload 9, 2) := by decide +kernel
theorem d3_592 : decode method_5_code 592 = .ok (.castore, 1) := by decide +kernel
theorem d3_593 : decode method_5_code 593 = .ok (.dup, 1) := by decide +kernel
theorem d3_594 : decode method_5_code 594 = .ok (.bipush 6, 2) := by decide +kernel
theorem d3_596 : decode method_5_code 596 = .ok (.iload 10, 2) := by decide +kernel
theorem d3_598 : decode method_5_code 598 = .ok (.castore, 1) := by decide +kernel
theorem d3_599 : decode method_5_code 599 = .ok (.dup, 1) := by decide +kernel
theorem d3_600 : decode method_5_code 600 = .ok (.bipush 7, 2) := by decide +kernel
theorem d3_602 : decode method_5_code 602 = .ok (.iload 11, 2) := by decide +kernel
theorem d3_604 : decode method_5_code 604 = .ok (.castore, 1) := by decide +kernel
theorem d3_605 : decode method_5_code 605 = .ok (.dup, 1) := by decide +kernel
theorem d3_606 : decode method_5_code 606 = .ok (.bipush 8, 2) := by decide +kernel
theorem d3_608 : decode method_5_code 608 = .ok (.iload 12, 2) := by decide +kernel
theorem d3_610 : decode method_5_code 610 = .ok (.castore, 1) := by decide +kernel
theorem d3_611 : decode method_5_code 611 = .ok (.dup, 1) := by decide +kernel
theorem d3_612 : decode method_5_code 612 = .ok (.bipush 9, 2) := by decide +kernel
theorem d3_614 : decode method_5_code 614 = .ok (.iload 13, 2) := by decide +kernel
theorem d3_616 : decode method_5_code 616 = .ok (.castore, 1) := by decide +kernel
theorem d3_617 : decode method_5_code 617 = .ok (.dup, 1) := by decide +kernel
theorem d3_618 : decode method_5_code 618 = .ok (.bipush 10, 2) := by decide +kernel
theorem d3_620 : decode method_5_code 620 = .ok (.iload 14, 2) := by decide +kernel
theorem d3_622 : decode method_5_code 622 = .ok (.castore, 1) := by decide +kernel
theorem d3_623 : decode method_5_code 623 = .ok (.invokespecial 10, 3) := by decide +kernel
theorem d3_626 : decode method_5_code 626 = .ok (.areturn, 1) := by decide +kernel
def Q3n11 (Z : State) (cs_a0 : List Int32) (w_COMPACT_STRINGS : Int32) (w_SIOOBE_FORMATTER : Value) (a0 : Addr) (p2 : Int32) (p3 : Int32) (h0 : Heap) (n0 : Nat) (v : Option Value) (h : Heap) (L : List Loc) : Prop := ∃ b8 : Addr, ∃ cs_out : List Int32, v = some (.ref b8) ∧ Fr n0 L ∧ Keep h0 h [] ∧ h0.size ≤ b8 ∧ own_Txt Z h b8 cs_out
set_option maxRecDepth 65536 in
set_option maxHeartbeats 40000000 in
theorem rm3n11 (l : Launch) (Z : State) (A0 : Array Value) (hw : ∀ d ∈ tables_1, d.before A0 Z = true) (ws : List Jvm.Cond) (cs_a0 : List Int32) (w_COMPACT_STRINGS : Int32) (w_SIOOBE_FORMATTER : Value) (a0 : Addr) (p2 : Int32) (p3 : Int32) (h0 : Heap) (n0 : Nat) (OLD : Old Z n0 h0) (f_1 : own_Txt Z h0 a0 cs_a0) (c_2 : own_B p3) (f_3 : Sta Z Z.heap "java/lang/String" "COMPACT_STRINGS" "Z" (.int w_COMPACT_STRINGS)) (c_4 : ¬ (w_COMPACT_STRINGS = (0 : Int32))) (f_5 : Sta Z Z.heap "jdk/internal/util/Preconditions" "SIOOBE_FORMATTER" "Ljava/util/function/BiFunction;" w_SIOOBE_FORMATTER) (c_6 : w_SIOOBE_FORMATTER.isRef = true) :
    MetFree l (⟨"com/example/seshat/seshat/jpql/DatabaseNamedPinLaw", "word", "(Ljava/lang/String;IIC)Ljava/lang/String;"⟩ : MethodName) (head1 (Jvm.Cond.code (⟨"com/example/seshat/seshat/jpql/DatabaseNamedPinLaw", "word", "(Ljava/lang/String;IIC)Ljava/lang/String;"⟩ : MethodName) method_5_code 15 (some (.object "java/lang/String")) :: ws) ({ frames := 6, cells := 3, slots := 40, locals := 120 } : Room)) (fun a U => a = #[(.ref a0), (.int (11 : Int32)), (.int p2), (.int p3)] ∧ Z.Warmed39 U.vm ∧ U.heap = h0) (fun _ _ _ _ _ => True) (fun _ U o U' => ∃ v L, o = .returned v ∧ Q3n11 Z cs_a0 w_COMPACT_STRINGS w_SIOOBE_FORMATTER a0 p2 p3 h0 n0 v U'.heap L ∧ FrameEnd U o U' L ({ frames := 6, cells := 3, slots := 40, locals := 120 } : Room).cells ({ frames := 6, cells := 3, slots := 40, locals := 120 } : Room).slots) := by
  refine MetFree.of_bodySF (plainFor_of_name pn_com_example_seshat_seshat_jpql_DatabaseNamedPinLaw) hisR ?_
  intro p e s m args below meth c s₁ Bd hml0 hP hK
  obtain ⟨rfl, hZ, hh⟩ := hP
  have hx := Bd.exec
  have hby := Bd.bytes
  have hml : c.maxLocals = 15 := hml0
  have hown : s.vm.findClass "com/example/seshat/seshat/jpql/DatabaseNamedPinLaw" = some m.cls := findClass_of_methodNamed Bd.named
  have hnm := (name_of_methodNamed Bd.named Bd.method).1
  have X0 : Stand p l e ({ frames := 6, cells := 3, slots := 40, locals := 120 } : Room) s m #[(.ref a0), (.int (11 : Int32)), (.int p2), (.int p3)] below meth c s₁ [] 0 0 := Stand.of_body Bd
  have e0 : s₁.heap = h0 := by rw [← hh, Bd.state]; rfl
  have N0 := Fr.nil n0
  have pre0 : ∀ t, Steps p.tables e below (s₁.setTop (mkF m 0 #[vR a0, vI (11 : Int32), vI p2, vI p3, .unset, .unset, .unset, .unset, .unset, .unset, .unset, .unset, .unset, .unset, .unset] [])) t → Steps p.tables e below (s₁.setTop (entryFrame m #[(.ref a0), (.int (11 : Int32)), (.int p2), (.int p3)] 15)) t := fun t k => castTop (ef_3 m a0 (11 : Int32) p2 p3) k
  obtain ⟨w_7_7, w_8_7, w_9_7, w_10_7, w_11_7, w_12_7, w_13_7, w_14_7, w_15_7, w_16_7, w_17_7, T7, L7, X7, N7, e7, g7_0, g7_1, g7_2, g7_3, g7_4, g7_5, g7_6, g7_7, g7_8, g7_9, g7_10, st7⟩ := rm3s l Z A0 hw cs_a0 w_COMPACT_STRINGS w_SIOOBE_FORMATTER a0 (11 : Int32) p2 p3 h0 n0 OLD f_1 c_2 f_3 c_4 f_5 c_6 X0 hx hZ hby hml hown hh e0
  obtain ⟨T8, h8, X8, e8, E8, A8, D8, M8, st8⟩ := newO X7 hx hZ hown (hw _ (List.mem_of_getElem? (i := 106) rfl)) (hw _ (List.mem_of_getElem? (i := 3) rfl)) (hw _ (List.mem_of_getElem? (i := 2) rfl)) e7 (g := (mkF m 555 #[vR a0, vI (11 : Int32), vI p2, vI p3, vI w_7_7, vI w_8_7, vI w_9_7, vI w_10_7, vI w_11_7, vI w_12_7, vI w_13_7, vI w_14_7, vI w_15_7, vI w_16_7, vI w_17_7] [])) rfl (hb hby d3_555) (by decide) (by decide)
  obtain ⟨b8, g8⟩ : ∃ z, z = h0.size := ⟨_, rfl⟩
  rw [← g8] at A8 D8 M8 st8
  have K_9 : Keep h0 h8 [] := (Keep.refl h0 []).ext E8
  have f_10 : Fld Z h8 b8 "java/lang/String" "value" "[B" .null := (D8 (Or.inr (hw _ (List.mem_of_getElem? (i := 5) rfl))) (ty := (.array .byte)) (by decide))
  have f_11 : Fld Z h8 b8 "java/lang/String" "coder" "B" (.int (0 : Int32)) := (D8 (Or.inr (hw _ (List.mem_of_getElem? (i := 6) rfl))) (ty := .byte) (by decide))
  obtain ⟨T12, h12, k12, X12, e12, E12, A12, st12⟩ := newP X8 hx hZ (hw _ (List.mem_of_getElem? (i := 107) rfl)) e8 (g := (mkF m 561 #[vR a0, vI (11 : Int32), vI p2, vI p3, vI w_7_7, vI w_8_7, vI w_9_7, vI w_10_7, vI w_11_7, vI w_12_7, vI w_13_7, vI w_14_7, vI w_15_7, vI w_16_7, vI w_17_7] [(.int (11 : Int32)), (.ref b8), (.ref b8)])) rfl (hb hby d3_561) rfl (by decide) (cap := 11) (by decide) (by decide) (by decide) (by decide)
  obtain ⟨b12, g12⟩ : ∃ z, z = h8.size := ⟨_, rfl⟩
  rw [← g12] at A12 st12
  have K_13 : Keep h0 h12 [] := K_9.ext E12
  have f_14 : Arv Z h12 b12 k12 .char (11 : Int32) [(.int (0 : Int32)), (.int (0 : Int32)), (.int (0 : Int32)), (.int (0 : Int32)), (.int (0 : Int32)), (.int (0 : Int32)), (.int (0 : Int32)), (.int (0 : Int32)), (.int (0 : Int32)), (.int (0 : Int32)), (.int (0 : Int32))] (.int (0 : Int32)) := (Arv.new A12 (by decide)).pad (pad_rep [] (.int (0 : Int32)) 11)
  obtain ⟨cl15, Ar15, q15, s15, n15, hh15, gg15⟩ := id (f_14)
  have hin15 : ¬ ((0 : Int32) < 0 ∨ cl15.slots.size ≤ ((0 : Int32)).toNatClampNeg) := inb_of s15 ⟨by decide, by decide⟩
  obtain ⟨T16, h16, X16, e16, W16, st16⟩ := stC X12 hx hZ e12 Ar15 (j := (0 : Int32)) hin15 (g := (mkF m 567 #[vR a0, vI (11 : Int32), vI p2, vI p3, vI w_7_7, vI w_8_7, vI w_9_7, vI w_10_7, vI w_11_7, vI w_12_7, vI w_13_7, vI w_14_7, vI w_15_7, vI w_16_7, vI w_17_7] [(.int w_7_7), (.int (0 : Int32)), (.ref b12), (.ref b12), (.ref b8), (.ref b8)])) rfl rfl (hb hby d3_567)
  have O_17 := Old.ext OLD E8
  have ge_18 : n0 ≤ b12 := own_ge O_17 (Nat.le_of_eq g12.symm)
  have N16 := Fr.snoc X16 N7 ge_18
  have f_19 : Arv Z h16 b12 k12 .char (11 : Int32) [(.int (nar .char w_7_7)), (.int (0 : Int32)), (.int (0 : Int32)), (.int (0 : Int32)), (.int (0 : Int32)), (.int (0 : Int32)), (.int (0 : Int32)), (.int (0 : Int32)), (.int (0 : Int32)), (.int (0 : Int32)), (.int (0 : Int32))] (.int (0 : Int32)) := Arv.set Ar15 q15 s15 n15 hh15 gg15 (fits_nar_char _) W16 0 rfl (Nat.le_of_ble_eq_true rfl)
  have K_20 : Keep h0 h16 [] := K_13.wr W16 (Or.inr (Nat.le_trans K_9.1 (Nat.le_of_eq g12.symm)))
  obtain ⟨cl21, Ar21, q21, s21, n21, hh21, gg21⟩ := id (f_19)
  have hin21 : ¬ ((1 : Int32) < 0 ∨ cl21.slots.size ≤ ((1 : Int32)).toNatClampNeg) := inb_of s21 ⟨by decide, by decide⟩
  obtain ⟨T22, h22, X22, e22, W22, st22⟩ := stC X16 hx hZ e16 Ar21 (j := (1 : Int32)) hin21 (g := (mkF m 572 #[vR a0, vI (11 : Int32), vI p2, vI p3, vI w_7_7, vI w_8_7, vI w_9_7, vI w_10_7, vI w_11_7, vI w_12_7, vI w_13_7, vI w_14_7, vI w_15_7, vI w_16_7, vI w_17_7] [(.int w_8_7), (.int (1 : Int32)), (.ref b12), (.ref b12), (.ref b8), (.ref b8)])) rfl rfl (hb hby d3_572)
  have N22 := Fr.snoc X22 N16 ge_18
  have f_23 : Arv Z h22 b12 k12 .char (11 : Int32) [(.int (nar .char w_7_7)), (.int (nar .char w_8_7)), (.int (0 : Int32)), (.int (0 : Int32)), (.int (0 : Int32)), (.int (0 : Int32)), (.int (0 : Int32)), (.int (0 : Int32)), (.int (0 : Int32)), (.int (0 : Int32)), (.int (0 : Int32))] (.int (0 : Int32)) := Arv.set Ar21 q21 s21 n21 hh21 gg21 (fits_nar_char _) W22 1 rfl (Nat.le_of_ble_eq_true rfl)
  have K_24 : Keep h0 h22 [] := K_20.wr W22 (Or.inr (Nat.le_trans K_9.1 (Nat.le_of_eq g12.symm)))
  obtain ⟨cl25, Ar25, q25, s25, n25, hh25, gg25⟩ := id (f_23)
  have hin25 : ¬ ((2 : Int32) < 0 ∨ cl25.slots.size ≤ ((2 : Int32)).toNatClampNeg) := inb_of s25 ⟨by decide, by decide⟩
  obtain ⟨T26, h26, X26, e26, W26, st26⟩ := stC X22 hx hZ e22 Ar25 (j := (2 : Int32)) hin25 (g := (mkF m 577 #[vR a0, vI (11 : Int32), vI p2, vI p3, vI w_7_7, vI w_8_7, vI w_9_7, vI w_10_7, vI w_11_7, vI w_12_7, vI w_13_7, vI w_14_7, vI w_15_7, vI w_16_7, vI w_17_7] [(.int w_9_7), (.int (2 : Int32)), (.ref b12), (.ref b12), (.ref b8), (.ref b8)])) rfl rfl (hb hby d3_577)
  have N26 := Fr.snoc X26 N22 ge_18
  have f_27 : Arv Z h26 b12 k12 .char (11 : Int32) [(.int (nar .char w_7_7)), (.int (nar .char w_8_7)), (.int (nar .char w_9_7)), (.int (0 : Int32)), (.int (0 : Int32)), (.int (0 : Int32)), (.int (0 : Int32)), (.int (0 : Int32)), (.int (0 : Int32)), (.int (0 : Int32)), (.int (0 : Int32))] (.int (0 : Int32)) := Arv.set Ar25 q25 s25 n25 hh25 gg25 (fits_nar_char _) W26 2 rfl (Nat.le_of_ble_eq_true rfl)
  have K_28 : Keep h0 h26 [] := K_24.wr W26 (Or.inr (Nat.le_trans K_9.1 (Nat.le_of_eq g12.symm)))
  obtain ⟨cl29, Ar29, q29, s29, n29, hh29, gg29⟩ := id (f_27)
  have hin29 : ¬ ((3 : Int32) < 0 ∨ cl29.slots.size ≤ ((3 : Int32)).toNatClampNeg) := inb_of s29 ⟨by decide, by decide⟩
  obtain ⟨T30, h30, X30, e30, W30, st30⟩ := stC X26 hx hZ e26 Ar29 (j := (3 : Int32)) hin29 (g := (mkF m 582 #[vR a0, vI (11 : Int32), vI p2, vI p3, vI w_7_7, vI w_8_7, vI w_9_7, vI w_10_7, vI w_11_7, vI w_12_7, vI w_13_7, vI w_14_7, vI w_15_7, vI w_16_7, vI w_17_7] [(.int w_10_7), (.int (3 : Int32)), (.ref b12), (.ref b12), (.ref b8), (.ref b8)])) rfl rfl (hb hby d3_582)
  have N30 := Fr.snoc X30 N26 ge_18
  have f_31 : Arv Z h30 b12 k12 .char (11 : Int32) [(.int (nar .char w_7_7)), (.int (nar .char w_8_7)), (.int (nar .char w_9_7)), (.int (nar .char w_10_7)), (.int (0 : Int32)), (.int (0 : Int32)), (.int (0 : Int32)), (.int (0 : Int32)), (.int (0 : Int32)), (.int (0 : Int32)), (.int (0 : Int32))] (.int (0 : Int32)) := Arv.set Ar29 q29 s29 n29 hh29 gg29 (fits_nar_char _) W30 3 rfl (Nat.le_of_ble_eq_true rfl)
  have K_32 : Keep h0 h30 [] := K_28.wr W30 (Or.inr (Nat.le_trans K_9.1 (Nat.le_of_eq g12.symm)))
  obtain ⟨cl33, Ar33, q33, s33, n33, hh33, gg33⟩ := id (f_31)
  have hin33 : ¬ ((4 : Int32) < 0 ∨ cl33.slots.size ≤ ((4 : Int32)).toNatClampNeg) := inb_of s33 ⟨by decide, by decide⟩
  obtain ⟨T34, h34, X34, e34, W34, st34⟩ := stC X30 hx hZ e30 Ar33 (j := (4 : Int32)) hin33 (g := (mkF m 587 #[vR a0, vI (11 : Int32), vI p2, vI p3, vI w_7_7, vI w_8_7, vI w_9_7, vI w_10_7, vI w_11_7, vI w_12_7, vI w_13_7, vI w_14_7, vI w_15_7, vI w_16_7, vI w_17_7] [(.int w_11_7), (.int (4 : Int32)), (.ref b12), (.ref b12), (.ref b8), (.ref b8)])) rfl rfl (hb hby d3_587)
  have N34 := Fr.snoc X34 N30 ge_18
  have f_35 : Arv Z h34 b12 k12 .char (11 : Int32) [(.int (nar .char w_7_7)), (.int (nar .char w_8_7)), (.int (nar .char w_9_7)), (.int (nar .char w_10_7)), (.int (nar .char w_11_7)), (.int (0 : Int32)), (.int (0 : Int32)), (.int (0 : Int32)), (.int (0 : Int32)), (.int (0 : Int32)), (.int (0 : Int32))] (.int (0 : Int32)) := Arv.set Ar33 q33 s33 n33 hh33 gg33 (fits_nar_char _) W34 4 rfl (Nat.le_of_ble_eq_true rfl)
  have K_36 : Keep h0 h34 [] := K_32.wr W34 (Or.inr (Nat.le_trans K_9.1 (Nat.le_of_eq g12.symm)))
  obtain ⟨cl37, Ar37, q37, s37, n37, hh37, gg37⟩ := id (f_35)
  have hin37 : ¬ ((5 : Int32) < 0 ∨ cl37.slots.size ≤ ((5 : Int32)).toNatClampNeg) := inb_of s37 ⟨by decide, by decide⟩
  obtain ⟨T38, h38, X38, e38, W38, st38⟩ := stC X34 hx hZ e34 Ar37 (j := (5 : Int32)) hin37 (g := (mkF m 592 #[vR a0, vI (11 : Int32), vI p2, vI p3, vI w_7_7, vI w_8_7, vI w_9_7, vI w_10_7, vI w_11_7, vI w_12_7, vI w_13_7, vI w_14_7, vI w_15_7, vI w_16_7, vI w_17_7] [(.int w_12_7), (.int (5 : Int32)), (.ref b12), (.ref b12), (.ref b8), (.ref b8)])) rfl rfl (hb hby d3_592)
  have N38 := Fr.snoc X38 N34 ge_18
  have f_39 : Arv Z h38 b12 k12 .char (11 : Int32) [(.int (nar .char w_7_7)), (.int (nar .char w_8_7)), (.int (nar .char w_9_7)), (.int (nar .char w_10_7)), (.int (nar .char w_11_7)), (.int (nar .char w_12_7)), (.int (0 : Int32)), (.int (0 : Int32)), (.int (0 : Int32)), (.int (0 : Int32)), (.int (0 : Int32))] (.int (0 : Int32)) := Arv.set Ar37 q37 s37 n37 hh37 gg37 (fits_nar_char _) W38 5 rfl (Nat.le_of_ble_eq_true rfl)
  have K_40 : Keep h0 h38 [] := K_36.wr W38 (Or.inr (Nat.le_trans K_9.1 (Nat.le_of_eq g12.symm)))
  obtain ⟨cl41, Ar41, q41, s41, n41, hh41, gg41⟩ := id (f_39)
  have hin41 : ¬ ((6 : Int32) < 0 ∨ cl41.slots.size ≤ ((6 : Int32)).toNatClampNeg) := inb_of s41 ⟨by decide, by decide⟩
  obtain ⟨T42, h42, X42, e42, W42, st42⟩ := stC X38 hx hZ e38 Ar41 (j := (6 : Int32)) hin41 (g := (mkF m 598 #[vR a0, vI (11 : Int32), vI p2, vI p3, vI w_7_7, vI w_8_7, vI w_9_7, vI w_10_7, vI w_11_7, vI w_12_7, vI w_13_7, vI w_14_7, vI w_15_7, vI w_16_7, vI w_17_7] [(.int w_13_7), (.int (6 : Int32)), (.ref b12), (.ref b12), (.ref b8), (.ref b8)])) rfl rfl (hb hby d3_598)
  have N42 := Fr.snoc X42 N38 ge_18
  have f_43 : Arv Z h42 b12 k12 .char (11 : Int32) [(.int (nar .char w_7_7)), (.int (nar .char w_8_7)), (.int (nar .char w_9_7)), (.int (nar .char w_10_7)), (.int (nar .char w_11_7)), (.int (nar .char w_12_7)), (.int (nar .char w_13_7)), (.int (0 : Int32)), (.int (0 : Int32)), (.int (0 : Int32)), (.int (0 : Int32))] (.int (0 : Int32)) := Arv.set Ar41 q41 s41 n41 hh41 gg41 (fits_nar_char _) W42 6 rfl (Nat.le_of_ble_eq_true rfl)
  have K_44 : Keep h0 h42 [] := K_40.wr W42 (Or.inr (Nat.le_trans K_9.1 (Nat.le_of_eq g12.symm)))
  obtain ⟨cl45, Ar45, q45, s45, n45, hh45, gg45⟩ := id (f_43)
  have hin45 : ¬ ((7 : Int32) < 0 ∨ cl45.slots.size ≤ ((7 : Int32)).toNatClampNeg) := inb_of s45 ⟨by decide, by decide⟩
  obtain ⟨T46, h46, X46, e46, W46, st46⟩ := stC X42 hx hZ e42 Ar45 (j := (7 : Int32)) hin45 (g := (mkF m 604 #[vR a0, vI (11 : Int32), vI p2, vI p3, vI w_7_7, vI w_8_7, vI w_9_7, vI w_10_7, vI w_11_7, vI w_12_7, vI w_13_7, vI w_14_7, vI w_15_7, vI w_16_7, vI w_17_7] [(.int w_14_7), (.int (7 : Int32)), (.ref b12), (.ref b12), (.ref b8), (.ref b8)])) rfl rfl (hb hby d3_604)
  have N46 := Fr.snoc X46 N42 ge_18
  have f_47 : Arv Z h46 b12 k12 .char (11 : Int32) [(.int (nar .char w_7_7)), (.int (nar .char w_8_7)), (.int (nar .char w_9_7)), (.int (nar .char w_10_7)), (.int (nar .char w_11_7)), (.int (nar .char w_12_7)), (.int (nar .char w_13_7)), (.int (nar .char w_14_7)), (.int (0 : Int32)), (.int (0 : Int32)), (.int (0 : Int32))] (.int (0 : Int32)) := Arv.set Ar45 q45 s45 n45 hh45 gg45 (fits_nar_char _) W46 7 rfl (Nat.le_of_ble_eq_true rfl)
  have K_48 : Keep h0 h46 [] := K_44.wr W46 (Or.inr (Nat.le_trans K_9.1 (Nat.le_of_eq g12.symm)))
  obtain ⟨cl49, Ar49, q49, s49, n49, hh49, gg49⟩ := id (f_47)
  have hin49 : ¬ ((8 : Int32) < 0 ∨ cl49.slots.size ≤ ((8 : Int32)).toNatClampNeg) := inb_of s49 ⟨by decide, by decide⟩
  obtain ⟨T50, h50, X50, e50, W50, st50⟩ := stC X46 hx hZ e46 Ar49 (j := (8 : Int32)) hin49 (g := (mkF m 610 #[vR a0, vI (11 : Int32), vI p2, vI p3, vI w_7_7, vI w_8_7, vI w_9_7, vI w_10_7, vI w_11_7, vI w_12_7, vI w_13_7, vI w_14_7, vI w_15_7, vI w_16_7, vI w_17_7] [(.int w_15_7), (.int (8 : Int32)), (.ref b12), (.ref b12), (.ref b8), (.ref b8)])) rfl rfl (hb hby d3_610)
  have N50 := Fr.snoc X50 N46 ge_18
  have f_51 : Arv Z h50 b12 k12 .char (11 : Int32) [(.int (nar .char w_7_7)), (.int (nar .char w_8_7)), (.int (nar .char w_9_7)), (.int (nar .char w_10_7)), (.int (nar .char w_11_7)), (.int (nar .char w_12_7)), (.int (nar .char w_13_7)), (.int (nar .char w_14_7)), (.int (nar .char w_15_7)), (.int (0 : Int32)), (.int (0 : Int32))] (.int (0 : Int32)) := Arv.set Ar49 q49 s49 n49 hh49 gg49 (fits_nar_char _) W50 8 rfl (Nat.le_of_ble_eq_true rfl)
  have K_52 : Keep h0 h50 [] := K_48.wr W50 (Or.inr (Nat.le_trans K_9.1 (Nat.le_of_eq g12.symm)))
  obtain ⟨cl53, Ar53, q53, s53, n53, hh53, gg53⟩ := id (f_51)
  have hin53 : ¬ ((9 : Int32) < 0 ∨ cl53.slots.size ≤ ((9 : Int32)).toNatClampNeg) := inb_of s53 ⟨by decide, by decide⟩
  obtain ⟨T54, h54, X54, e54, W54, st54⟩ := stC X50 hx hZ e50 Ar53 (j := (9 : Int32)) hin53 (g := (mkF m 616 #[vR a0, vI (11 : Int32), vI p2, vI p3, vI w_7_7, vI w_8_7, vI w_9_7, vI w_10_7, vI w_11_7, vI w_12_7, vI w_13_7, vI w_14_7, vI w_15_7, vI w_16_7, vI w_17_7] [(.int w_16_7), (.int (9 : Int32)), (.ref b12), (.ref b12), (.ref b8), (.ref b8)])) rfl rfl (hb hby d3_616)
  have N54 := Fr.snoc X54 N50 ge_18
  have f_55 : Arv Z h54 b12 k12 .char (11 : Int32) [(.int (nar .char w_7_7)), (.int (nar .char w_8_7)), (.int (nar .char w_9_7)), (.int (nar .char w_10_7)), (.int (nar .char w_11_7)), (.int (nar .char w_12_7)), (.int (nar .char w_13_7)), (.int (nar .char w_14_7)), (.int (nar .char w_15_7)), (.int (nar .char w_16_7)), (.int (0 : Int32))] (.int (0 : Int32)) := Arv.set Ar53 q53 s53 n53 hh53 gg53 (fits_nar_char _) W54 9 rfl (Nat.le_of_ble_eq_true rfl)
  have K_56 : Keep h0 h54 [] := K_52.wr W54 (Or.inr (Nat.le_trans K_9.1 (Nat.le_of_eq g12.symm)))
  obtain ⟨cl57, Ar57, q57, s57, n57, hh57, gg57⟩ := id (f_55)
  have hin57 : ¬ ((10 : Int32) < 0 ∨ cl57.slots.size ≤ ((10 : Int32)).toNatClampNeg) := inb_of s57 ⟨by decide, by decide⟩
  obtain ⟨T58, h58, X58, e58, W58, st58⟩ := stC X54 hx hZ e54 Ar57 (j := (10 : Int32)) hin57 (g := (mkF m 622 #[vR a0, vI (11 : Int32), vI p2, vI p3, vI w_7_7, vI w_8_7, vI w_9_7, vI w_10_7, vI w_11_7, vI w_12_7, vI w_13_7, vI w_14_7, vI w_15_7, vI w_16_7, vI w_17_7] [(.int w_17_7), (.int (10 : Int32)), (.ref b12), (.ref b12), (.ref b8), (.ref b8)])) rfl rfl (hb hby d3_622)
  have N58 := Fr.snoc X58 N54 ge_18
  have f_59 : Arv Z h58 b12 k12 .char (11 : Int32) [(.int (nar .char w_7_7)), (.int (nar .char w_8_7)), (.int (nar .char w_9_7)), (.int (nar .char w_10_7)), (.int (nar .char w_11_7)), (.int (nar .char w_12_7)), (.int (nar .char w_13_7)), (.int (nar .char w_14_7)), (.int (nar .char w_15_7)), (.int (nar .char w_16_7)), (.int (nar .char w_17_7))] (.int (0 : Int32)) := Arv.set Ar57 q57 s57 n57 hh57 gg57 (fits_nar_char _) W58 10 rfl (Nat.le_of_ble_eq_true rfl)
  have K_60 : Keep h0 h58 [] := K_56.wr W58 (Or.inr (Nat.le_trans K_9.1 (Nat.le_of_eq g12.symm)))
  have O_61 := Old.ext O_17 E12
  have O_62 := Old.wr O_61 W16 ge_18
  have O_63 := Old.wr O_62 W22 ge_18
  have O_64 := Old.wr O_63 W26 ge_18
  have O_65 := Old.wr O_64 W30 ge_18
  have O_66 := Old.wr O_65 W34 ge_18
  have O_67 := Old.wr O_66 W38 ge_18
  have O_68 := Old.wr O_67 W42 ge_18
  have O_69 := Old.wr O_68 W46 ge_18
  have O_70 := Old.wr O_69 W50 ge_18
  have O_71 := Old.wr O_70 W54 ge_18
  have O_72 := Old.wr O_71 W58 ge_18
  have ge_73 : n0 ≤ b8 := own_ge OLD (Nat.le_of_eq g8.symm)
  have f_74 := A8.ext E12
  have f_75 := f_74.wr W16
  have f_76 := f_75.wr W22
  have f_77 := f_76.wr W26
  have f_78 := f_77.wr W30
  have f_79 := f_78.wr W34
  have f_80 := f_79.wr W38
  have f_81 := f_80.wr W42
  have f_82 := f_81.wr W46
  have f_83 := f_82.wr W50
  have f_84 := f_83.wr W54
  have f_85 := f_84.wr W58
  have f_86 := f_10.ext E12
  have ne_87 : b8 ≠ b12 := Nat.ne_of_lt (Nat.lt_of_lt_of_le A8.lt (Nat.le_of_eq g12.symm))
  have f_88 := f_86.other W16 (Or.inl ne_87)
  have f_89 := f_88.other W22 (Or.inl ne_87)
  have f_90 := f_89.other W26 (Or.inl ne_87)
  have f_91 := f_90.other W30 (Or.inl ne_87)
  have f_92 := f_91.other W34 (Or.inl ne_87)
  have f_93 := f_92.other W38 (Or.inl ne_87)
  have f_94 := f_93.other W42 (Or.inl ne_87)
  have f_95 := f_94.other W46 (Or.inl ne_87)
  have f_96 := f_95.other W50 (Or.inl ne_87)
  have f_97 := f_96.other W54 (Or.inl ne_87)
  have f_98 := f_97.other W58 (Or.inl ne_87)
  have f_99 := f_11.ext E12
  have f_100 := f_99.other W16 (Or.inl ne_87)
  have f_101 := f_100.other W22 (Or.inl ne_87)
  have f_102 := f_101.other W26 (Or.inl ne_87)
  have f_103 := f_102.other W30 (Or.inl ne_87)
  have f_104 := f_103.other W34 (Or.inl ne_87)
  have f_105 := f_104.other W38 (Or.inl ne_87)
  have f_106 := f_105.other W42 (Or.inl ne_87)
  have f_107 := f_106.other W46 (Or.inl ne_87)
  have f_108 := f_107.other W50 (Or.inl ne_87)
  have f_109 := f_108.other W54 (Or.inl ne_87)
  have f_110 := f_109.other W58 (Or.inl ne_87)
  obtain ⟨_, _, ⟨T111, L111, k111, n111⟩, -, X111, ⟨Lc111, hQ111, l111, y111, z111⟩, st111⟩ := X58.specialBack hx (y := (⟨"java/lang/String", "<init>", "([C)V"⟩ : MethodName)) rfl hown (mvT hZ (hw _ (List.mem_of_getElem? (i := 108) rfl))) (mvT hZ (hw _ (List.mem_of_getElem? (i := 109) rfl))) (mvT hZ (hw _ (List.mem_of_getElem? (i := 110) rfl))) (by decide) (own_newB (W := 1) (n := 11) (cs := ([(nar .char w_7_7), (nar .char w_8_7), (nar .char w_9_7), (nar .char w_10_7), (nar .char w_11_7), (nar .char w_12_7), (nar .char w_13_7), (nar .char w_14_7), (nar .char w_15_7), (nar .char w_16_7), (nar .char w_17_7)] : List Int32)) hZ hw O_72 f_3 c_4 ge_73 f_85 f_98 f_110 f_59 rfl (by decide) (by decide) (own_cS (own_bn g7_0) (own_cS (own_bn g7_1) (own_cS (own_bn g7_2) (own_cS (own_bn g7_3) (own_cS (own_bn g7_4) (own_cS (own_bn g7_5) (own_cS (own_bn g7_6) (own_cS (own_bn g7_7) (own_cS (own_bn g7_8) (own_cS (own_bn g7_9) (own_cS (own_bn g7_10) own_c0))))))))))) (by decide) (by decide)) (g := (mkF m 623 #[vR a0, vI (11 : Int32), vI p2, vI p3, vI w_7_7, vI w_8_7, vI w_9_7, vI w_10_7, vI w_11_7, vI w_12_7, vI w_13_7, vI w_14_7, vI w_15_7, vI w_16_7, vI w_17_7] [(.ref b12), (.ref b8), (.ref b8)])) rfl (by rw [hml]; rfl) (Steps.refl _) (a := b8) (argsL := [(.ref b12)]) (rest := [(.ref b8)]) (lenOf pd_7 rfl) rfl (by show 2 * 0 + _ ≤ _; exact Nat.le_of_eq rfl) (hb hby d3_623) (fun _ _ => ⟨rfl, e58, (by decide : 2 + 1 ≤ _), (by decide : 15 + 11 ≤ _)⟩)
  dsimp only [Pt.U, Pt.locs, Pt.cells, Pt.slots] at X111 l111 y111 z111 st111 hQ111
  subst l111 y111 z111
  obtain ⟨rfl, N111q, K111, g111_0⟩ := hQ111
  have N111 := Fr.app N58 N111q
  have K_112 : Keep h0 T111.heap [] := Keep.trans K_60 K111 (allS (Or.inr (Nat.le_trans (Keep.refl h0 []).1 (Nat.le_of_eq g8.symm))) all0)
  have f_113 := f_85.keep K111
  obtain ⟨fs, hr, hrun, hended, hW, hsame⟩ := X111.leave (v := some (.ref b8)) (fun h => by rw [Bd.returns] at h; cases h)
  refine ⟨_, _, pre0 _ ?_, hrun, hended, _, _, rfl, ?_, ⟨_, rfl⟩, hW, hsame.mono (by decide) (by decide)⟩
  · show Steps p.tables e below (s₁.setTop (mkF m 0 #[vR a0, vI (11 : Int32), vI p2, vI p3, .unset, .unset, .unset, .unset, .unset, .unset, .unset, .unset, .unset, .unset, .unset] [])) _
    refine st7 _ ?_
    show Steps p.tables e below (T7.setTop (mkF m 104 #[vR a0, vI (11 : Int32), vI p2, vI p3, vI w_7_7, vI w_8_7, vI w_9_7, vI w_10_7, vI w_11_7, vI w_12_7, vI w_13_7, vI w_14_7, vI w_15_7, vI w_16_7, vI w_17_7] [])) _
    refine XS.iloadN X7.here hx rfl (hb hby d3_104) rfl ?_
    refine XS.iconst X7.here hx rfl (hb hby d3_105) ?_
    show Steps p.tables e below (T7.setTop (mkF m 106 #[vR a0, vI (11 : Int32), vI p2, vI p3, vI w_7_7, vI w_8_7, vI w_9_7, vI w_10_7, vI w_11_7, vI w_12_7, vI w_13_7, vI w_14_7, vI w_15_7, vI w_16_7, vI w_17_7] [(.int (1 : Int32)), (.int (11 : Int32))])) _
    refine XS.icmpYes X7.here hx rfl (pc0 := 106) (pc' := 115) rfl (hb hby d3_106) rfl (feq (by decide : ¬ ((11 : Int32) = (1 : Int32)))).2 (by decide) (by decide) ?_
    refine XS.iloadN X7.here hx rfl (hb hby d3_115) rfl ?_
    show Steps p.tables e below (T7.setTop (mkF m 116 #[vR a0, vI (11 : Int32), vI p2, vI p3, vI w_7_7, vI w_8_7, vI w_9_7, vI w_10_7, vI w_11_7, vI w_12_7, vI w_13_7, vI w_14_7, vI w_15_7, vI w_16_7, vI w_17_7] [(.int (11 : Int32))])) _
    refine XS.iconst X7.here hx rfl (hb hby d3_116) ?_
    refine XS.icmpYes X7.here hx rfl (pc0 := 117) (pc' := 141) rfl (hb hby d3_117) rfl (feq (by decide : ¬ ((11 : Int32) = (2 : Int32)))).2 (by decide) (by decide) ?_
    show Steps p.tables e below (T7.setTop (mkF m 141 #[vR a0, vI (11 : Int32), vI p2, vI p3, vI w_7_7, vI w_8_7, vI w_9_7, vI w_10_7, vI w_11_7, vI w_12_7, vI w_13_7, vI w_14_7, vI w_15_7, vI w_16_7, vI w_17_7] [])) _
    refine XS.iloadN X7.here hx rfl (hb hby d3_141) rfl ?_
    refine XS.iconst X7.here hx rfl (hb hby d3_142) ?_
    show Steps p.tables e below (T7.setTop (mkF m 143 #[vR a0, vI (11 : Int32), vI p2, vI p3, vI w_7_7, vI w_8_7, vI w_9_7, vI w_10_7, vI w_11_7, vI w_12_7, vI w_13_7, vI w_14_7, vI w_15_7, vI w_16_7, vI w_17_7] [(.int (3 : Int32)), (.int (11 : Int32))])) _
    refine XS.icmpYes X7.here hx rfl (pc0 := 143) (pc' := 172) rfl (hb hby d3_143) rfl (feq (by decide : ¬ ((11 : Int32) = (3 : Int32)))).2 (by decide) (by decide) ?_
    refine XS.iloadN X7.here hx rfl (hb hby d3_172) rfl ?_
    show Steps p.tables e below (T7.setTop (mkF m 173 #[vR a0, vI (11 : Int32), vI p2, vI p3, vI w_7_7, vI w_8_7, vI w_9_7, vI w_10_7, vI w_11_7, vI w_12_7, vI w_13_7, vI w_14_7, vI w_15_7, vI w_16_7, vI w_17_7] [(.int (11 : Int32))])) _
    refine XS.iconst X7.here hx rfl (hb hby d3_173) ?_
    refine XS.icmpYes X7.here hx rfl (pc0 := 174) (pc' := 208) rfl (hb hby d3_174) rfl (feq (by decide : ¬ ((11 : Int32) = (4 : Int32)))).2 (by decide) (by decide) ?_
    show Steps p.tables e below (T7.setTop (mkF m 208 #[vR a0, vI (11 : Int32), vI p2, vI p3, vI w_7_7, vI w_8_7, vI w_9_7, vI w_10_7, vI w_11_7, vI w_12_7, vI w_13_7, vI w_14_7, vI w_15_7, vI w_16_7, vI w_17_7] [])) _
    refine XS.iloadN X7.here hx rfl (hb hby d3_208) rfl ?_
    refine XS.iconst X7.here hx rfl (hb hby d3_209) ?_
    show Steps p.tables e below (T7.setTop (mkF m 210 #[vR a0, vI (11 : Int32), vI p2, vI p3, vI w_7_7, vI w_8_7, vI w_9_7, vI w_10_7, vI w_11_7, vI w_12_7, vI w_13_7, vI w_14_7, vI w_15_7, vI w_16_7, vI w_17_7] [(.int (5 : Int32)), (.int (11 : Int32))])) _
    refine XS.icmpYes X7.here hx rfl (pc0 := 210) (pc' := 249) rfl (hb hby d3_210) rfl (feq (by decide : ¬ ((11 : Int32) = (5 : Int32)))).2 (by decide) (by decide) ?_
    refine XS.iloadN X7.here hx rfl (hb hby d3_249) rfl ?_
    show Steps p.tables e below (T7.setTop (mkF m 250 #[vR a0, vI (11 : Int32), vI p2, vI p3, vI w_7_7, vI w_8_7, vI w_9_7, vI w_10_7, vI w_11_7, vI w_12_7, vI w_13_7, vI w_14_7, vI w_15_7, vI w_16_7, vI w_17_7] [(.int (11 : Int32))])) _
    refine XS.bipush X7.here hx rfl (hb hby d3_250) ?_
    refine XS.icmpYes X7.here hx rfl (pc0 := 252) (pc' := 297) rfl (hb hby d3_252) rfl (feq (by decide : ¬ ((11 : Int32) = (6 : Int32)))).2 (by decide) (by decide) ?_
    show Steps p.tables e below (T7.setTop (mkF m 297 #[vR a0, vI (11 : Int32), vI p2, vI p3, vI w_7_7, vI w_8_7, vI w_9_7, vI w_10_7, vI w_11_7, vI w_12_7, vI w_13_7, vI w_14_7, vI w_15_7, vI w_16_7, vI w_17_7] [])) _
    refine XS.iloadN X7.here hx rfl (hb hby d3_297) rfl ?_
    refine XS.bipush X7.here hx rfl (hb hby d3_298) ?_
    show Steps p.tables e below (T7.setTop (mkF m 300 #[vR a0, vI (11 : Int32), vI p2, vI p3, vI w_7_7, vI w_8_7, vI w_9_7, vI w_10_7, vI w_11_7, vI w_12_7, vI w_13_7, vI w_14_7, vI w_15_7, vI w_16_7, vI w_17_7] [(.int (7 : Int32)), (.int (11 : Int32))])) _
    refine XS.icmpYes X7.here hx rfl (pc0 := 300) (pc' := 351) rfl (hb hby d3_300) rfl (feq (by decide : ¬ ((11 : Int32) = (7 : Int32)))).2 (by decide) (by decide) ?_
    refine XS.iloadN X7.here hx rfl (hb hby d3_351) rfl ?_
    show Steps p.tables e below (T7.setTop (mkF m 352 #[vR a0, vI (11 : Int32), vI p2, vI p3, vI w_7_7, vI w_8_7, vI w_9_7, vI w_10_7, vI w_11_7, vI w_12_7, vI w_13_7, vI w_14_7, vI w_15_7, vI w_16_7, vI w_17_7] [(.int (11 : Int32))])) _
    refine XS.bipush X7.here hx rfl (hb hby d3_352) ?_
    refine XS.icmpYes X7.here hx rfl (pc0 := 354) (pc' := 411) rfl (hb hby d3_354) rfl (feq (by decide : ¬ ((11 : Int32) = (8 : Int32)))).2 (by decide) (by decide) ?_
    show Steps p.tables e below (T7.setTop (mkF m 411 #[vR a0, vI (11 : Int32), vI p2, vI p3, vI w_7_7, vI w_8_7, vI w_9_7, vI w_10_7, vI w_11_7, vI w_12_7, vI w_13_7, vI w_14_7, vI w_15_7, vI w_16_7, vI w_17_7] [])) _
    refine XS.iloadN X7.here hx rfl (hb hby d3_411) rfl ?_
    refine XS.bipush X7.here hx rfl (hb hby d3_412) ?_
    show Steps p.tables e below (T7.setTop (mkF m 414 #[vR a0, vI (11 : Int32), vI p2, vI p3, vI w_7_7, vI w_8_7, vI w_9_7, vI w_10_7, vI w_11_7, vI w_12_7, vI w_13_7, vI w_14_7, vI w_15_7, vI w_16_7, vI w_17_7] [(.int (9 : Int32)), (.int (11 : Int32))])) _
    refine XS.icmpYes X7.here hx rfl (pc0 := 414) (pc' := 477) rfl (hb hby d3_414) rfl (feq (by decide : ¬ ((11 : Int32) = (9 : Int32)))).2 (by decide) (by decide) ?_
    refine XS.iloadN X7.here hx rfl (hb hby d3_477) rfl ?_
    show Steps p.tables e below (T7.setTop (mkF m 478 #[vR a0, vI (11 : Int32), vI p2, vI p3, vI w_7_7, vI w_8_7, vI w_9_7, vI w_10_7, vI w_11_7, vI w_12_7, vI w_13_7, vI w_14_7, vI w_15_7, vI w_16_7, vI w_17_7] [(.int (11 : Int32))])) _
    refine XS.bipush X7.here hx rfl (hb hby d3_478) ?_
    refine XS.icmpYes X7.here hx rfl (pc0 := 480) (pc' := 549) rfl (hb hby d3_480) rfl (feq (by decide : ¬ ((11 : Int32) = (10 : Int32)))).2 (by decide) (by decide) ?_
    show Steps p.tables e below (T7.setTop (mkF m 549 #[vR a0, vI (11 : Int32), vI p2, vI p3, vI w_7_7, vI w_8_7, vI w_9_7, vI w_10_7, vI w_11_7, vI w_12_7, vI w_13_7, vI w_14_7, vI w_15_7, vI w_16_7, vI w_17_7] [])) _
    refine XS.iloadN X7.here hx rfl (hb hby d3_549) rfl ?_
    refine XS.bipush X7.here hx rfl (hb hby d3_550) ?_
    show Steps p.tables e below (T7.setTop (mkF m 552 #[vR a0, vI (11 : Int32), vI p2, vI p3, vI w_7_7, vI w_8_7, vI w_9_7, vI w_10_7, vI w_11_7, vI w_12_7, vI w_13_7, vI w_14_7, vI w_15_7, vI w_16_7, vI w_17_7] [(.int (11 : Int32)), (.int (11 : Int32))])) _
    refine XS.icmpNo X7.here hx rfl (hb hby d3_552) rfl (teq (by decide : (11 : Int32) = (11 : Int32))).2 ?_
    refine st8 _ ?_
    show Steps p.tables e below (T8.setTop (mkF m 558 #[vR a0, vI (11 : Int32), vI p2, vI p3, vI w_7_7, vI w_8_7, vI w_9_7, vI w_10_7, vI w_11_7, vI w_12_7, vI w_13_7, vI w_14_7, vI w_15_7, vI w_16_7, vI w_17_7] [(.ref b8)])) _
    refine XS.dup X8.here hx rfl (hb hby d3_558) rfl rfl ?_
    refine XS.bipush X8.here hx rfl (hb hby d3_559) ?_
    show Steps p.tables e below (T8.setTop (mkF m 561 #[vR a0, vI (11 : Int32), vI p2, vI p3, vI w_7_7, vI w_8_7, vI w_9_7, vI w_10_7, vI w_11_7, vI w_12_7, vI w_13_7, vI w_14_7, vI w_15_7, vI w_16_7, vI w_17_7] [(.int (11 : Int32)), (.ref b8), (.ref b8)])) _
    refine st12 _ ?_
    refine XS.dup X12.here hx rfl (hb hby d3_563) rfl rfl ?_
    show Steps p.tables e below (T12.setTop (mkF m 564 #[vR a0, vI (11 : Int32), vI p2, vI p3, vI w_7_7, vI w_8_7, vI w_9_7, vI w_10_7, vI w_11_7, vI w_12_7, vI w_13_7, vI w_14_7, vI w_15_7, vI w_16_7, vI w_17_7] [(.ref b12), (.ref b12), (.ref b8), (.ref b8)])) _
    refine XS.iconst X12.here hx rfl (hb hby d3_564) ?_
    refine XS.iload X12.here hx rfl (hb hby d3_565) rfl ?_
    show Steps p.tables e below (T12.setTop (mkF m 567 #[vR a0, vI (11 : Int32), vI p2, vI p3, vI w_7_7, vI w_8_7, vI w_9_7, vI w_10_7, vI w_11_7, vI w_12_7, vI w_13_7, vI w_14_7, vI w_15_7, vI w_16_7, vI w_17_7] [(.int w_7_7), (.int (0 : Int32)), (.ref b12), (.ref b12), (.ref b8), (.ref b8)])) _
    refine st16 _ ?_
    refine XS.dup X16.here hx rfl (hb hby d3_568) rfl rfl ?_
    show Steps p.tables e below (T16.setTop (mkF m 569 #[vR a0, vI (11 : Int32), vI p2, vI p3, vI w_7_7, vI w_8_7, vI w_9_7, vI w_10_7, vI w_11_7, vI w_12_7, vI w_13_7, vI w_14_7, vI w_15_7, vI w_16_7, vI w_17_7] [(.ref b12), (.ref b12), (.ref b8), (.ref b8)])) _
    refine XS.iconst X16.here hx rfl (hb hby d3_569) ?_
    refine XS.iload X16.here hx rfl (hb hby d3_570) rfl ?_
    show Steps p.tables e below (T16.setTop (mkF m 572 #[vR a0, vI (11 : Int32), vI p2, vI p3, vI w_7_7, vI w_8_7, vI w_9_7, vI w_10_7, vI w_11_7, vI w_12_7, vI w_13_7, vI w_14_7, vI w_15_7, vI w_16_7, vI w_17_7] [(.int w_8_7), (.int (1 : Int32)), (.ref b12), (.ref b12), (.ref b8), (.ref b8)])) _
    refine st22 _ ?_
    refine XS.dup X22.here hx rfl (hb hby d3_573) rfl rfl ?_
    show Steps p.tables e below (T22.setTop (mkF m 574 #[vR a0, vI (11 : Int32), vI p2, vI p3, vI w_7_7, vI w_8_7, vI w_9_7, vI w_10_7, vI w_11_7, vI w_12_7, vI w_13_7, vI w_14_7, vI w_15_7, vI w_16_7, vI w_17_7] [(.ref b12), (.ref b12), (.ref b8), (.ref b8)])) _
    refine XS.iconst X22.here hx rfl (hb hby d3_574) ?_
    refine XS.iload X22.here hx rfl (hb hby d3_575) rfl ?_
    show Steps p.tables e below (T22.setTop (mkF m 577 #[vR a0, vI (11 : Int32), vI p2, vI p3, vI w_7_7, vI w_8_7, vI w_9_7, vI w_10_7, vI w_11_7, vI w_12_7, vI w_13_7, vI w_14_7, vI w_15_7, vI w_16_7, vI w_17_7] [(.int w_9_7), (.int (2 : Int32)), (.ref b12), (.ref b12), (.ref b8), (.ref b8)])) _
    refine st26 _ ?_
    refine XS.dup X26.here hx rfl (hb hby d3_578) rfl rfl ?_
    show Steps p.tables e below (T26.setTop (mkF m 579 #[vR a0, vI (11 : Int32), vI p2, vI p3, vI w_7_7, vI w_8_7, vI w_9_7, vI w_10_7, vI w_11_7, vI w_12_7, vI w_13_7, vI w_14_7, vI w_15_7, vI w_16_7, vI w_17_7] [(.ref b12), (.ref b12), (.ref b8), (.ref b8)])) _
    refine XS.iconst X26.here hx rfl (hb hby d3_579) ?_
    refine XS.iload X26.here hx rfl (hb hby d3_580) rfl ?_
    show Steps p.tables e below (T26.setTop (mkF m 582 #[vR a0, vI (11 : Int32), vI p2, vI p3, vI w_7_7, vI w_8_7, vI w_9_7, vI w_10_7, vI w_11_7, vI w_12_7, vI w_13_7, vI w_14_7, vI w_15_7, vI w_16_7, vI w_17_7] [(.int w_10_7), (.int (3 : Int32)), (.ref b12), (.ref b12), (.ref b8), (.ref b8)])) _
    refine st30 _ ?_
    refine XS.dup X30.here hx rfl (hb hby d3_583) rfl rfl ?_
    show Steps p.tables e below (T30.setTop (mkF m 584 #[vR a0, vI (11 : Int32), vI p2, vI p3, vI w_7_7, vI w_8_7, vI w_9_7, vI w_10_7, vI w_11_7, vI w_12_7, vI w_13_7, vI w_14_7, vI w_15_7, vI w_16_7, vI w_17_7] [(.ref b12), (.ref b12), (.ref b8), (.ref b8)])) _
    refine XS.iconst X30.here hx rfl (hb hby d3_584) ?_
    refine XS.iload X30.here hx rfl (hb hby d3_585) rfl ?_
    show Steps p.tables e below (T30.setTop (mkF m 587 #[vR a0, vI (11 : Int32), vI p2, vI p3, vI w_7_7, vI w_8_7, vI w_9_7, vI w_10_7, vI w_11_7, vI w_12_7, vI w_13_7, vI w_14_7, vI w_15_7, vI w_16_7, vI w_17_7] [(.int w_11_7), (.int (4 : Int32)), (.ref b12), (.ref b12), (.ref b8), (.ref b8)])) _
    refine st34 _ ?_
    refine XS.dup X34.here hx rfl (hb hby d3_588) rfl rfl ?_
    show Steps p.tables e below (T34.setTop (mkF m 589 #[vR a0, vI (11 : Int32), vI p2, vI p3, vI w_7_7, vI w_8_7, vI w_9_7, vI w_10_7, vI w_11_7, vI w_12_7, vI w_13_7, vI w_14_7, vI w_15_7, vI w_16_7, vI w_17_7] [(.ref b12), (.ref b12), (.ref b8), (.ref b8)])) _
    refine XS.iconst X34.here hx rfl (hb hby d3_589) ?_
    refine XS.iload X34.here hx rfl (hb hby d3_590) rfl ?_
    show Steps p.tables e below (T34.setTop (mkF m 592 #[vR a0, vI (11 : Int32), vI p2, vI p3, vI w_7_7, vI w_8_7, vI w_9_7, vI w_10_7, vI w_11_7, vI w_12_7, vI w_13_7, vI w_14_7, vI w_15_7, vI w_16_7, vI w_17_7] [(.int w_12_7), (.int (5 : Int32)), (.ref b12), (.ref b12), (.ref b8), (.ref b8)])) _
    refine st38 _ ?_
    refine XS.dup X38.here hx rfl (hb hby d3_593) rfl rfl ?_
    show Steps p.tables e below (T38.setTop (mkF m 594 #[vR a0, vI (11 : Int32), vI p2, vI p3, vI w_7_7, vI w_8_7, vI w_9_7, vI w_10_7, vI w_11_7, vI w_12_7, vI w_13_7, vI w_14_7, vI w_15_7, vI w_16_7, vI w_17_7] [(.ref b12), (.ref b12), (.ref b8), (.ref b8)])) _
    refine XS.bipush X38.here hx rfl (hb hby d3_594) ?_
    refine XS.iload X38.here hx rfl (hb hby d3_596) rfl ?_
    show Steps p.tables e below (T38.setTop (mkF m 598 #[vR a0, vI (11 : Int32), vI p2, vI p3, vI w_7_7, vI w_8_7, vI w_9_7, vI w_10_7, vI w_11_7, vI w_12_7, vI w_13_7, vI w_14_7, vI w_15_7, vI w_16_7, vI w_17_7] [(.int w_13_7), (.int (6 : Int32)), (.ref b12), (.ref b12), (.ref b8), (.ref b8)])) _
    refine st42 _ ?_
    refine XS.dup X42.here hx rfl (hb hby d3_599) rfl rfl ?_
    show Steps p.tables e below (T42.setTop (mkF m 600 #[vR a0, vI (11 : Int32), vI p2, vI p3, vI w_7_7, vI w_8_7, vI w_9_7, vI w_10_7, vI w_11_7, vI w_12_7, vI w_13_7, vI w_14_7, vI w_15_7, vI w_16_7, vI w_17_7] [(.ref b12), (.ref b12), (.ref b8), (.ref b8)])) _
    refine XS.bipush X42.here hx rfl (hb hby d3_600) ?_
    refine XS.iload X42.here hx rfl (hb hby d3_602) rfl ?_
    show Steps p.tables e below (T42.setTop (mkF m 604 #[vR a0, vI (11 : Int32), vI p2, vI p3, vI w_7_7, vI w_8_7, vI w_9_7, vI w_10_7, vI w_11_7, vI w_12_7, vI w_13_7, vI w_14_7, vI w_15_7, vI w_16_7, vI w_17_7] [(.int w_14_7), (.int (7 : Int32)), (.ref b12), (.ref b12), (.ref b8), (.ref b8)])) _
    refine st46 _ ?_
    refine XS.dup X46.here hx rfl (hb hby d3_605) rfl rfl ?_
    show Steps p.tables e below (T46.setTop (mkF m 606 #[vR a0, vI (11 : Int32), vI p2, vI p3, vI w_7_7, vI w_8_7, vI w_9_7, vI w_10_7, vI w_11_7, vI w_12_7, vI w_13_7, vI w_14_7, vI w_15_7, vI w_16_7, vI w_17_7] [(.ref b12), (.ref b12), (.ref b8), (.ref b8)])) _
    refine XS.bipush X46.here hx rfl (hb hby d3_606) ?_
    refine XS.iload X46.here hx rfl (hb hby d3_608) rfl ?_
    show Steps p.tables e below (T46.setTop (mkF m 610 #[vR a0, vI (11 : Int32), vI p2, vI p3, vI w_7_7, vI w_8_7, vI w_9_7, vI w_10_7, vI w_11_7, vI w_12_7, vI w_13_7, vI w_14_7, vI w_15_7, vI w_16_7, vI w_17_7] [(.int w_15_7), (.int (8 : Int32)), (.ref b12), (.ref b12), (.ref b8), (.ref b8)])) _
    refine st50 _ ?_
    refine XS.dup X50.here hx rfl (hb hby d3_611) rfl rfl ?_
    show Steps p.tables e below (T50.setTop (mkF m 612 #[vR a0, vI (11 : Int32), vI p2, vI p3, vI w_7_7, vI w_8_7, vI w_9_7, vI w_10_7, vI w_11_7, vI w_12_7, vI w_13_7, vI w_14_7, vI w_15_7, vI w_16_7, vI w_17_7] [(.ref b12), (.ref b12), (.ref b8), (.ref b8)])) _
    refine XS.bipush X50.here hx rfl (hb hby d3_612) ?_
    refine XS.iload X50.here hx rfl (hb hby d3_614) rfl ?_
    show Steps p.tables e below (T50.setTop (mkF m 616 #[vR a0, vI (11 : Int32), vI p2, vI p3, vI w_7_7, vI w_8_7, vI w_9_7, vI w_10_7, vI w_11_7, vI w_12_7, vI w_13_7, vI w_14_7, vI w_15_7, vI w_16_7, vI w_17_7] [(.int w_16_7), (.int (9 : Int32)), (.ref b12), (.ref b12), (.ref b8), (.ref b8)])) _
    refine st54 _ ?_
    refine XS.dup X54.here hx rfl (hb hby d3_617) rfl rfl ?_
    show Steps p.tables e below (T54.setTop (mkF m 618 #[vR a0, vI (11 : Int32), vI p2, vI p3, vI w_7_7, vI w_8_7, vI w_9_7, vI w_10_7, vI w_11_7, vI w_12_7, vI w_13_7, vI w_14_7, vI w_15_7, vI w_16_7, vI w_17_7] [(.ref b12), (.ref b12), (.ref b8), (.ref b8)])) _
    refine XS.bipush X54.here hx rfl (hb hby d3_618) ?_
    refine XS.iload X54.here hx rfl (hb hby d3_620) rfl ?_
    show Steps p.tables e below (T54.setTop (mkF m 622 #[vR a0, vI (11 : Int32), vI p2, vI p3, vI w_7_7, vI w_8_7, vI w_9_7, vI w_10_7, vI w_11_7, vI w_12_7, vI w_13_7, vI w_14_7, vI w_15_7, vI w_16_7, vI w_17_7] [(.int w_17_7), (.int (10 : Int32)), (.ref b12), (.ref b12), (.ref b8), (.ref b8)])) _
    refine st58 _ ?_
    refine st111.trans ?_
    show Steps p.tables e below (T111.setTop (mkF m 626 #[vR a0, vI (11 : Int32), vI p2, vI p3, vI w_7_7, vI w_8_7, vI w_9_7, vI w_10_7, vI w_11_7, vI w_12_7, vI w_13_7, vI w_14_7, vI w_15_7, vI w_16_7, vI w_17_7] [(.ref b8)])) _
    jvm_step X111.here [X111.here.top, hx, (hb hby d3_626), X111.method', Bd.returns, Value.isRef, FieldType.isReference]
    first | (intro acts; rw [hr _ acts rfl rfl rfl]) | rw [hr _ _ rfl rfl rfl]
    exact Steps.refl _
  · show Q3n11 Z cs_a0 w_COMPACT_STRINGS w_SIOOBE_FORMATTER a0 p2 p3 h0 n0 _ T111.heap _
    exact ⟨b8, ([(nar .char w_7_7), (nar .char w_8_7), (nar .char w_9_7), (nar .char w_10_7), (nar .char w_11_7), (nar .char w_12_7), (nar .char w_13_7), (nar .char w_14_7), (nar .char w_15_7), (nar .char w_16_7), (nar .char w_17_7)] : List Int32), rfl, N111, K_112, (Nat.le_trans (Keep.refl h0 []).1 (Nat.le_of_eq g8.symm)), g111_0⟩
def own_lens (x : Int32) : Prop := x = (1 : Int32) ∨ x = (2 : Int32) ∨ x = (3 : Int32) ∨ x = (6 : Int32) ∨ x = (7 : Int32) ∨ x = (8 : Int32) ∨ x = (9 : Int32) ∨ x = (10 : Int32) ∨ x = (11 : Int32)
def Q3 (Z : State) (h0 : Heap) (n0 : Nat) (v : Option Value) (h : Heap) (L : List Loc) : Prop := ∃ b : Addr, ∃ cs_out : List Int32, v = some (.ref b) ∧ Fr n0 L ∧ Keep h0 h [] ∧ h0.size ≤ b ∧ own_Txt Z h b cs_out
theorem rm3 (l : Launch) (Z : State) (A0 : Array Value) (hw : ∀ d ∈ tables_1, d.before A0 Z = true) (ws : List Jvm.Cond) (p1 : Int32) (cs_a0 : List Int32) (w_COMPACT_STRINGS : Int32) (w_SIOOBE_FORMATTER : Value) (a0 : Addr) (p2 : Int32) (p3 : Int32) (h0 : Heap) (n0 : Nat) (OLD : Old Z n0 h0) (x0 : own_Txt Z h0 a0 cs_a0) (x1 : own_B p3) (x2 : Sta Z Z.heap "java/lang/String" "COMPACT_STRINGS" "Z" (.int w_COMPACT_STRINGS)) (x3 : ¬ (w_COMPACT_STRINGS = (0 : Int32))) (x4 : Sta Z Z.heap "jdk/internal/util/Preconditions" "SIOOBE_FORMATTER" "Ljava/util/function/BiFunction;" w_SIOOBE_FORMATTER) (x5 : w_SIOOBE_FORMATTER.isRef = true) (x6 : own_lens p1) :
    MetFree l (⟨"com/example/seshat/seshat/jpql/DatabaseNamedPinLaw", "word", "(Ljava/lang/String;IIC)Ljava/lang/String;"⟩ : MethodName) (head1 (Jvm.Cond.code (⟨"com/example/seshat/seshat/jpql/DatabaseNamedPinLaw", "word", "(Ljava/lang/String;IIC)Ljava/lang/String;"⟩ : MethodName) method_5_code 15 (some (.object "java/lang/String")) :: ws) ({ frames := 6, cells := 3, slots := 40, locals := 120 } : Room)) (fun a U => a = #[(.ref a0), (.int p1), (.int p2), (.int p3)] ∧ Z.Warmed39 U.vm ∧ U.heap = h0) (fun _ _ _ _ _ => True) (fun _ U o U' => ∃ v L, o = .returned v ∧ Q3 Z h0 n0 v U'.heap L ∧ FrameEnd U o U' L ({ frames := 6, cells := 3, slots := 40, locals := 120 } : Room).cells ({ frames := 6, cells := 3, slots := 40, locals := 120 } : Room).slots) := by
  rcases x6 with rfl | rfl | rfl | rfl | rfl | rfl | rfl | rfl | rfl
  · exact own_mono (rm3n1 l Z A0 hw ws cs_a0 w_COMPACT_STRINGS w_SIOOBE_FORMATTER a0 p2 p3 h0 n0 OLD x0 x1 x2 x3 x4 x5) (fun _ _ _ _ ⟨v, L, h1, ⟨b, cs, h2, h3, h4, h5, h6⟩, h7⟩ => ⟨v, L, h1, ⟨b, cs, h2, h3, h4, h5, h6⟩, h7⟩)
  · exact own_mono (rm3n2 l Z A0 hw ws cs_a0 w_COMPACT_STRINGS w_SIOOBE_FORMATTER a0 p2 p3 h0 n0 OLD x0 x1 x2 x3 x4 x5) (fun _ _ _ _ ⟨v, L, h1, ⟨b, cs, h2, h3, h4, h5, h6⟩, h7⟩ => ⟨v, L, h1, ⟨b, cs, h2, h3, h4, h5, h6⟩, h7⟩)
  · exact own_mono (rm3n3 l Z A0 hw ws cs_a0 w_COMPACT_STRINGS w_SIOOBE_FORMATTER a0 p2 p3 h0 n0 OLD x0 x1 x2 x3 x4 x5) (fun _ _ _ _ ⟨v, L, h1, ⟨b, cs, h2, h3, h4, h5, h6⟩, h7⟩ => ⟨v, L, h1, ⟨b, cs, h2, h3, h4, h5, h6⟩, h7⟩)
  · exact own_mono (rm3n6 l Z A0 hw ws cs_a0 w_COMPACT_STRINGS w_SIOOBE_FORMATTER a0 p2 p3 h0 n0 OLD x0 x1 x2 x3 x4 x5) (fun _ _ _ _ ⟨v, L, h1, ⟨b, cs, h2, h3, h4, h5, h6⟩, h7⟩ => ⟨v, L, h1, ⟨b, cs, h2, h3, h4, h5, h6⟩, h7⟩)
  · exact own_mono (rm3n7 l Z A0 hw ws cs_a0 w_COMPACT_STRINGS w_SIOOBE_FORMATTER a0 p2 p3 h0 n0 OLD x0 x1 x2 x3 x4 x5) (fun _ _ _ _ ⟨v, L, h1, ⟨b, cs, h2, h3, h4, h5, h6⟩, h7⟩ => ⟨v, L, h1, ⟨b, cs, h2, h3, h4, h5, h6⟩, h7⟩)
  · exact own_mono (rm3n8 l Z A0 hw ws cs_a0 w_COMPACT_STRINGS w_SIOOBE_FORMATTER a0 p2 p3 h0 n0 OLD x0 x1 x2 x3 x4 x5) (fun _ _ _ _ ⟨v, L, h1, ⟨b, cs, h2, h3, h4, h5, h6⟩, h7⟩ => ⟨v, L, h1, ⟨b, cs, h2, h3, h4, h5, h6⟩, h7⟩)
  · exact own_mono (rm3n9 l Z A0 hw ws cs_a0 w_COMPACT_STRINGS w_SIOOBE_FORMATTER a0 p2 p3 h0 n0 OLD x0 x1 x2 x3 x4 x5) (fun _ _ _ _ ⟨v, L, h1, ⟨b, cs, h2, h3, h4, h5, h6⟩, h7⟩ => ⟨v, L, h1, ⟨b, cs, h2, h3, h4, h5, h6⟩, h7⟩)
  · exact own_mono (rm3n10 l Z A0 hw ws cs_a0 w_COMPACT_STRINGS w_SIOOBE_FORMATTER a0 p2 p3 h0 n0 OLD x0 x1 x2 x3 x4 x5) (fun _ _ _ _ ⟨v, L, h1, ⟨b, cs, h2, h3, h4, h5, h6⟩, h7⟩ => ⟨v, L, h1, ⟨b, cs, h2, h3, h4, h5, h6⟩, h7⟩)
  · exact own_mono (rm3n11 l Z A0 hw ws cs_a0 w_COMPACT_STRINGS w_SIOOBE_FORMATTER a0 p2 p3 h0 n0 OLD x0 x1 x2 x3 x4 x5) (fun _ _ _ _ ⟨v, L, h1, ⟨b, cs, h2, h3, h4, h5, h6⟩, h7⟩ => ⟨v, L, h1, ⟨b, cs, h2, h3, h4, h5, h6⟩, h7⟩)
theorem d16_0 : decode prog_9_method_1_code 0 = .ok (.getstatic 13, 3) := by decide +kernel
theorem d16_3 : decode prog_9_method_1_code 3 = .ok (.invokevirtual 17, 3) := by decide +kernel
theorem d16_6 : decode prog_9_method_1_code 6 = .ok (.checkcast 18, 3) := by decide +kernel
theorem d16_9 : decode prog_9_method_1_code 9 = .ok (.areturn, 1) := by decide +kernel
theorem pn_com_example_seshat_seshat_jpql_Database : plainName "com/example/seshat/seshat/jpql/Database" = true := by first | (simp [plainName, overriddenIn]; done) | decide +kernel
theorem ef_16 (m : MethodId)  : entryFrame m #[] 0 = mkF m 0 #[] [] := by first | (simp [entryFrame, mkF, argsToLocals, Value.category]; done) | rfl
def Q16 (Z : State) (w_VALUES : Addr) (k_VALUES : ClassId) (w_H2 : Addr) (w_POSTGRESQL : Addr) (w_MARIADB : Addr) (h0 : Heap) (n0 : Nat) (v : Option Value) (h : Heap) (L : List Loc) : Prop := ∃ b5 : Addr, v = some (.ref b5) ∧ Fr n0 L ∧ Keep h0 h [] ∧ h0.size ≤ b5 ∧ Exa Z h b5 "[Lcom/example/seshat/seshat/jpql/Database;" ∧ Arv Z h b5 k_VALUES (.object "com/example/seshat/seshat/jpql/Database") (3 : Int32) [(.ref w_H2), (.ref w_POSTGRESQL), (.ref w_MARIADB)] .null
set_option maxRecDepth 65536 in
set_option maxHeartbeats 40000000 in
theorem rm16 (l : Launch) (Z : State) (A0 : Array Value) (hw : ∀ d ∈ tables_1, d.before A0 Z = true) (ws : List Jvm.Cond) (w_VALUES : Addr) (k_VALUES : ClassId) (w_H2 : Addr) (w_POSTGRESQL : Addr) (w_MARIADB : Addr) (h0 : Heap) (n0 : Nat) (OLD : Old Z n0 h0) (f_1 : Sta Z Z.heap "com/example/seshat/seshat/jpql/Database" "$VALUES" "[Lcom/example/seshat/seshat/jpql/Database;" (.ref w_VALUES)) (f_2 : Exa Z Z.heap w_VALUES "[Lcom/example/seshat/seshat/jpql/Database;") (f_3 : Arv Z Z.heap w_VALUES k_VALUES (.object "com/example/seshat/seshat/jpql/Database") (3 : Int32) [(.ref w_H2), (.ref w_POSTGRESQL), (.ref w_MARIADB)] .null) :
    MetFree l (⟨"com/example/seshat/seshat/jpql/Database", "values", "()[Lcom/example/seshat/seshat/jpql/Database;"⟩ : MethodName) (head1 (Jvm.Cond.code (⟨"com/example/seshat/seshat/jpql/Database", "values", "()[Lcom/example/seshat/seshat/jpql/Database;"⟩ : MethodName) prog_9_method_1_code 0 (some (.array (.object "com/example/seshat/seshat/jpql/Database"))) :: ws) ({ frames := 1, cells := 1, slots := 3, locals := 14 } : Room)) (fun a U => a = #[] ∧ Z.Warmed39 U.vm ∧ U.heap = h0) (fun _ _ _ _ _ => True) (fun _ U o U' => ∃ v L, o = .returned v ∧ Q16 Z w_VALUES k_VALUES w_H2 w_POSTGRESQL w_MARIADB h0 n0 v U'.heap L ∧ FrameEnd U o U' L ({ frames := 1, cells := 1, slots := 3, locals := 14 } : Room).cells ({ frames := 1, cells := 1, slots := 3, locals := 14 } : Room).slots) := by
  refine MetFree.of_bodySF (plainFor_of_name pn_com_example_seshat_seshat_jpql_Database) hisR ?_
  intro p e s m args below meth c s₁ Bd hml0 hP hK
  obtain ⟨rfl, hZ, hh⟩ := hP
  have hx := Bd.exec
  have hby := Bd.bytes
  have hml : c.maxLocals = 0 := hml0
  have hown : s.vm.findClass "com/example/seshat/seshat/jpql/Database" = some m.cls := findClass_of_methodNamed Bd.named
  have hnm := (name_of_methodNamed Bd.named Bd.method).1
  have X0 : Stand p l e ({ frames := 1, cells := 1, slots := 3, locals := 14 } : Room) s m #[] below meth c s₁ [] 0 0 := Stand.of_body Bd
  have e0 : s₁.heap = h0 := by rw [← hh, Bd.state]; rfl
  have N0 := Fr.nil n0
  have pre0 : ∀ t, Steps p.tables e below (s₁.setTop (mkF m 0 #[] [])) t → Steps p.tables e below (s₁.setTop (entryFrame m #[] 0)) t := fun t k => castTop (ef_16 m ) k
  obtain ⟨T4, X4, e4, st4⟩ := getS2 X0 hx hZ hown (host := "") (Or.inl (hw _ (List.mem_of_getElem? (i := 75) rfl))) Via.refl e0 (f_1.ext OLD.2) (g := (mkF m 0 #[] [])) rfl (hb hby d16_0)
  obtain ⟨T5, h5, X5, e5, E5, V5, B5, st5⟩ := cloneH X4 hx hZ hown (hw _ (List.mem_of_getElem? (i := 77) rfl)) (hw _ (List.mem_of_getElem? (i := 78) rfl)) (hw _ (List.mem_of_getElem? (i := 82) rfl)) (hw _ (List.mem_of_getElem? (i := 80) rfl)) (hw _ (List.mem_of_getElem? (i := 81) rfl)) (hw _ (List.mem_of_getElem? (i := 83) rfl)) e4 (Arv.arh (f_3.ext OLD.2)) (f_2.ext OLD.2) (g := (mkF m 3 #[] [(.ref w_VALUES)])) rfl (by rw [hml]; rfl) rfl (hb hby d16_3) (by decide) (W := 0) (cap := 3) (by show 2 * 0 + _ ≤ _; exact Nat.le_of_eq rfl) (by decide) (by decide) (by decide) (by decide)
  obtain ⟨b5, g5⟩ : ∃ z, z = h0.size := ⟨_, rfl⟩
  rw [← g5] at V5 B5 st5
  have K_6 : Keep h0 h5 [] := (Keep.refl h0 []).ext E5
  have f_7 : Arv Z h5 b5 k_VALUES (.object "com/example/seshat/seshat/jpql/Database") (3 : Int32) [(.ref w_H2), (.ref w_POSTGRESQL), (.ref w_MARIADB)] .null := V5
  obtain ⟨T8, X8, e8, st8⟩ := castY X5 hx hZ hown (hw _ (List.mem_of_getElem? (i := 87) rfl)) e5 (Ins.self B5) (g := (mkF m 6 #[] [(.ref b5)])) rfl rfl (hb hby d16_6)
  obtain ⟨fs, hr, hrun, hended, hW, hsame⟩ := X8.leave (v := some (.ref b5)) (fun h => by rw [Bd.returns] at h; cases h)
  refine ⟨_, _, pre0 _ ?_, hrun, hended, _, _, rfl, ?_, ⟨_, rfl⟩, hW, hsame.mono (by decide) (by decide)⟩
  · show Steps p.tables e below (s₁.setTop (mkF m 0 #[] [])) _
    refine st4 _ ?_
    show Steps p.tables e below (T4.setTop (mkF m 3 #[] [(.ref w_VALUES)])) _
    refine st5 _ ?_
    refine st8 _ ?_
    show Steps p.tables e below (T8.setTop (mkF m 9 #[] [(.ref b5)])) _
    jvm_step X8.here [X8.here.top, hx, (hb hby d16_9), X8.method', Bd.returns, Value.isRef, FieldType.isReference]
    first | (intro acts; rw [hr _ acts rfl rfl rfl]) | rw [hr _ _ rfl rfl rfl]
    exact Steps.refl _
  · show Q16 Z w_VALUES k_VALUES w_H2 w_POSTGRESQL w_MARIADB h0 n0 _ T8.heap _
    rw [e8]
    exact ⟨b5, rfl, N0, K_6, (Nat.le_trans (Keep.refl h0 []).1 (Nat.le_of_eq g5.symm)), B5, f_7⟩
theorem pd_8 : parseMethodDescriptor "()[Lcom/example/seshat/seshat/jpql/Database;" = some ⟨[], some (.array (.object "com/example/seshat/seshat/jpql/Database"))⟩ := by decide +kernel
theorem pd_9 : parseMethodDescriptor "(Ljava/lang/Object;)Z" = some ⟨[(.object "java/lang/Object")], some .boolean⟩ := by decide +kernel
theorem d15_0 : decode prog_9_method_4_code 0 = .ok (.invokestatic 39, 3) := by decide +kernel
theorem d15_3 : decode prog_9_method_4_code 3 = .ok (.astore_n 1, 1) := by decide +kernel
theorem d15_4 : decode prog_9_method_4_code 4 = .ok (.aload_n 1, 1) := by decide +kernel
theorem d15_5 : decode prog_9_method_4_code 5 = .ok (.arraylength, 1) := by decide +kernel
theorem d15_6 : decode prog_9_method_4_code 6 = .ok (.istore_n 2, 1) := by decide +kernel
theorem d15_7 : decode prog_9_method_4_code 7 = .ok (.iconst 0, 1) := by decide +kernel
theorem d15_8 : decode prog_9_method_4_code 8 = .ok (.istore_n 3, 1) := by decide +kernel
theorem d15_9 : decode prog_9_method_4_code 9 = .ok (.iload_n 3, 1) := by decide +kernel
theorem d15_10 : decode prog_9_method_4_code 10 = .ok (.iload_n 2, 1) := by decide +kernel
theorem d15_11 : decode prog_9_method_4_code 11 = .ok (.if_icmp .ge 29, 3) := by decide +kernel
theorem d15_14 : decode prog_9_method_4_code 14 = .ok (.aload_n 1, 1) := by decide +kernel
theorem d15_15 : decode prog_9_method_4_code 15 = .ok (.iload_n 3, 1) := by decide +kernel
theorem d15_16 : decode prog_9_method_4_code 16 = .ok (.aaload, 1) := by decide +kernel
theorem d15_17 : decode prog_9_method_4_code 17 = .ok (.astore 4, 2) := by decide +kernel
theorem d15_19 : decode prog_9_method_4_code 19 = .ok (.aload 4, 2) := by decide +kernel
theorem d15_21 : decode prog_9_method_4_code 21 = .ok (.getfield 32, 3) := by decide +kernel
theorem d15_24 : decode prog_9_method_4_code 24 = .ok (.aload_n 0, 1) := by decide +kernel
theorem d15_25 : decode prog_9_method_4_code 25 = .ok (.invokevirtual 43, 3) := by decide +kernel
theorem d15_28 : decode prog_9_method_4_code 28 = .ok (.ifCond .eq 6, 3) := by decide +kernel
theorem d15_31 : decode prog_9_method_4_code 31 = .ok (.aload 4, 2) := by decide +kernel
theorem d15_33 : decode prog_9_method_4_code 33 = .ok (.areturn, 1) := by decide +kernel
theorem ef_15 (m : MethodId) (x0 : Addr) : entryFrame m #[(.ref x0)] 5 = mkF m 0 #[vR x0, .unset, .unset, .unset, .unset] [] := by first | (simp [entryFrame, mkF, argsToLocals, Value.category]; done) | rfl
def Q15a (Z : State) (w_VALUES : Addr) (k_VALUES : ClassId) (w_H2 : Addr) (w_POSTGRESQL : Addr) (w_MARIADB : Addr) (cs_a0 : List Int32) (w_COMPACT_STRINGS : Int32) (pv_H2 : Addr) (pv_POSTGRESQL : Addr) (pv_MARIADB : Addr) (a0 : Addr) (h0 : Heap) (n0 : Nat) (v : Option Value) (h : Heap) (L : List Loc) : Prop := v = some (.ref w_H2) ∧ Fr n0 L ∧ Keep h0 h []
set_option maxRecDepth 65536 in
set_option maxHeartbeats 40000000 in
theorem rm15a (l : Launch) (Z : State) (A0 : Array Value) (hw : ∀ d ∈ tables_1, d.before A0 Z = true) (ws : List Jvm.Cond) (w_VALUES : Addr) (k_VALUES : ClassId) (w_H2 : Addr) (w_POSTGRESQL : Addr) (w_MARIADB : Addr) (cs_a0 : List Int32) (w_COMPACT_STRINGS : Int32) (pv_H2 : Addr) (pv_POSTGRESQL : Addr) (pv_MARIADB : Addr) (a0 : Addr) (h0 : Heap) (n0 : Nat) (OLD : Old Z n0 h0) (f_1 : Sta Z Z.heap "com/example/seshat/seshat/jpql/Database" "$VALUES" "[Lcom/example/seshat/seshat/jpql/Database;" (.ref w_VALUES)) (f_2 : Exa Z Z.heap w_VALUES "[Lcom/example/seshat/seshat/jpql/Database;") (f_3 : Arv Z Z.heap w_VALUES k_VALUES (.object "com/example/seshat/seshat/jpql/Database") (3 : Int32) [(.ref w_H2), (.ref w_POSTGRESQL), (.ref w_MARIADB)] .null) (f_4 : own_Txt Z h0 a0 cs_a0) (f_5 : Sta Z Z.heap "java/lang/String" "COMPACT_STRINGS" "Z" (.int w_COMPACT_STRINGS)) (c_6 : ¬ (w_COMPACT_STRINGS = (0 : Int32))) (f_7 : Fld Z Z.heap w_H2 "com/example/seshat/seshat/jpql/Database" "propertyValue" "Ljava/lang/String;" (.ref pv_H2)) (f_8 : Fld Z Z.heap w_POSTGRESQL "com/example/seshat/seshat/jpql/Database" "propertyValue" "Ljava/lang/String;" (.ref pv_POSTGRESQL)) (f_9 : Fld Z Z.heap w_MARIADB "com/example/seshat/seshat/jpql/Database" "propertyValue" "Ljava/lang/String;" (.ref pv_MARIADB)) (f_10 : own_Txt Z Z.heap pv_H2 ([104, 50] : List Int32)) (f_11 : own_Txt Z Z.heap pv_POSTGRESQL ([112, 111, 115, 116, 103, 114, 101, 115, 113, 108] : List Int32)) (f_12 : own_Txt Z Z.heap pv_MARIADB ([109, 97, 114, 105, 97, 100, 98] : List Int32)) (c_13 : cs_a0 = ([104, 50] : List Int32)) :
    MetFree l (⟨"com/example/seshat/seshat/jpql/Database", "named", "(Ljava/lang/String;)Lcom/example/seshat/seshat/jpql/Database;"⟩ : MethodName) (head1 (Jvm.Cond.code (⟨"com/example/seshat/seshat/jpql/Database", "named", "(Ljava/lang/String;)Lcom/example/seshat/seshat/jpql/Database;"⟩ : MethodName) prog_9_method_4_code 5 (some (.object "com/example/seshat/seshat/jpql/Database")) :: ws) ({ frames := 2, cells := 1, slots := 3, locals := 80 } : Room)) (fun a U => a = #[(.ref a0)] ∧ Z.Warmed39 U.vm ∧ U.heap = h0) (fun _ _ _ _ _ => True) (fun _ U o U' => ∃ v L, o = .returned v ∧ Q15a Z w_VALUES k_VALUES w_H2 w_POSTGRESQL w_MARIADB cs_a0 w_COMPACT_STRINGS pv_H2 pv_POSTGRESQL pv_MARIADB a0 h0 n0 v U'.heap L ∧ FrameEnd U o U' L ({ frames := 2, cells := 1, slots := 3, locals := 80 } : Room).cells ({ frames := 2, cells := 1, slots := 3, locals := 80 } : Room).slots) := by
  refine MetFree.of_bodySF (plainFor_of_name pn_com_example_seshat_seshat_jpql_Database) hisR ?_
  intro p e s m args below meth c s₁ Bd hml0 hP hK
  obtain ⟨rfl, hZ, hh⟩ := hP
  have hx := Bd.exec
  have hby := Bd.bytes
  have hml : c.maxLocals = 5 := hml0
  have hown : s.vm.findClass "com/example/seshat/seshat/jpql/Database" = some m.cls := findClass_of_methodNamed Bd.named
  have hnm := (name_of_methodNamed Bd.named Bd.method).1
  have X0 : Stand p l e ({ frames := 2, cells := 1, slots := 3, locals := 80 } : Room) s m #[(.ref a0)] below meth c s₁ [] 0 0 := Stand.of_body Bd
  have e0 : s₁.heap = h0 := by rw [← hh, Bd.state]; rfl
  have N0 := Fr.nil n0
  have pre0 : ∀ t, Steps p.tables e below (s₁.setTop (mkF m 0 #[vR a0, .unset, .unset, .unset, .unset] [])) t → Steps p.tables e below (s₁.setTop (entryFrame m #[(.ref a0)] 5)) t := fun t k => castTop (ef_15 m a0) k
  obtain ⟨_, _, ⟨T14, L14, k14, n14⟩, -, X14, ⟨Lc14, hQ14, l14, y14, z14⟩, st14⟩ := Jvm.LawKit.callS X0 hx (y := (⟨"com/example/seshat/seshat/jpql/Database", "values", "()[Lcom/example/seshat/seshat/jpql/Database;"⟩ : MethodName)) hown (mvT hZ (hw _ (List.mem_of_getElem? (i := 72) rfl))) (mvT hZ (hw _ (List.mem_of_getElem? (i := 73) rfl))) (mvT hZ (hw _ (List.mem_of_getElem? (i := 70) rfl))) (mvT hZ (hw _ (List.mem_of_getElem? (i := 74) rfl))) (by decide) (backOf (W := 0) (rm16 l Z A0 hw [] w_VALUES k_VALUES w_H2 w_POSTGRESQL w_MARIADB h0 n0 OLD f_1 f_2 f_3) hZ (hw _ (List.mem_of_getElem? (i := 74) rfl)) (hw _ (List.mem_of_getElem? (i := 70) rfl)) (by decide) (by decide)) (g := (mkF m 0 #[vR a0, .unset, .unset, .unset, .unset] [])) rfl (by rw [hml]; rfl) (argsL := []) (rest := []) (lenOf pd_8 rfl) rfl (by show 2 * 0 + _ ≤ _; exact Nat.le_of_eq rfl) (hb hby d15_0) (fun _ _ => ⟨rfl, e0, (by decide : 0 + 1 ≤ _), (by decide : 0 + 3 ≤ _)⟩)
  dsimp only [Pt.U, Pt.locs, Pt.cells, Pt.slots] at X14 l14 y14 z14 st14 hQ14
  subst l14 y14 z14
  obtain ⟨b5_14, rfl, N14q, K14, g14_0, g14_1, g14_2⟩ := hQ14
  have N14 := Fr.app N0 N14q
  have K_15 : Keep h0 T14.heap [] := Keep.trans (Keep.refl h0 []) K14 all0
  obtain ⟨cl16, Ar16, -, s16, n16, -, -⟩ := id (g14_2)
  obtain ⟨cl17, Ar17, q17, s17, n17, hh17, gg17⟩ := id (g14_2)
  have hin17 : ¬ ((0 : Int32) < 0 ∨ cl17.slots.size ≤ ((0 : Int32)).toNatClampNeg) := inb_of s17 ⟨by decide, by decide⟩
  have hat17 : cl17.slots[((0 : Int32)).toNatClampNeg]? = some (.ref w_H2) := hh17.at hin17 rfl
  have O_18 := Old.keep OLD K14 all0
  obtain ⟨T19, X19, e19, st19⟩ := getF X14 hx hZ hown (host := "") (Or.inl (hw _ (List.mem_of_getElem? (i := 89) rfl))) Via.refl rfl (f_7.ext O_18.2) (g := (mkF m 21 #[vR a0, vR b5_14, vI (3 : Int32), vI (0 : Int32), vR w_H2] [(.ref w_H2)])) rfl rfl (hb hby d15_21)
  have f_20 := f_4.keep0 K14
  obtain ⟨cq21, kq21, q21a, q21b, q21c⟩ := isOf hZ e19 (own_Txt.exa (f_10.ext O_18.2))
  obtain ⟨_, _, ⟨T21, L21, k21, n21⟩, -, X21, ⟨Lc21, hQ21, l21, y21, z21⟩, st21⟩ := X19.virtualBack hx (y := (⟨"java/lang/String", "equals", "(Ljava/lang/Object;)Z"⟩ : MethodName)) (z := (⟨"java/lang/String", "equals", "(Ljava/lang/Object;)Z"⟩ : MethodName)) hown (mvT hZ (hw _ (List.mem_of_getElem? (i := 91) rfl))) (mvT hZ (hw _ (List.mem_of_getElem? (i := 92) rfl))) (notFace_of_selects (args := #[]) (mvT hZ (hw _ (List.mem_of_getElem? (i := 94) rfl)))) (mvT hZ (hw _ (List.mem_of_getElem? (i := 94) rfl))) (mvT hZ (hw _ (List.mem_of_getElem? (i := 93) rfl))) (by decide) (own_eqB (W := 0) (r := (1 : Int32)) hZ hw O_18 f_5 c_6 (f_10.ext O_18.2) f_20 (Or.inl ⟨rfl, c_13.symm⟩) (by decide) (by decide)) q21a q21c (g := (mkF m 25 #[vR a0, vR b5_14, vI (3 : Int32), vI (0 : Int32), vR w_H2] [(.ref a0), (.ref pv_H2)])) rfl (by rw [hml]; rfl) (Steps.refl _) (argsL := [(.ref a0)]) (rest := []) (lenOf pd_9 rfl) rfl (by show 2 * 0 + _ ≤ _; exact Nat.le_of_eq rfl) (hb hby d15_25) (fun _ _ => ⟨rfl, e19, (by decide : 1 + 0 ≤ _), (by decide : 3 + 0 ≤ _)⟩)
  dsimp only [Pt.U, Pt.locs, Pt.cells, Pt.slots] at X21 l21 y21 z21 st21 hQ21
  subst l21 y21 z21
  obtain ⟨rfl, N21q, e21⟩ := hQ21
  have N21 := Fr.app N14 N21q
  obtain ⟨fs, hr, hrun, hended, hW, hsame⟩ := X21.leave (v := some (.ref w_H2)) (fun h => by rw [Bd.returns] at h; cases h)
  refine ⟨_, _, pre0 _ ?_, hrun, hended, _, _, rfl, ?_, ⟨_, rfl⟩, hW, hsame.mono (by decide) (by decide)⟩
  · show Steps p.tables e below (s₁.setTop (mkF m 0 #[vR a0, .unset, .unset, .unset, .unset] [])) _
    refine st14 _ ?_
    refine XS.astoreN X14.here hx rfl (hb hby d15_3) rfl rfl (l' := #[vR a0, vR b5_14, .unset, .unset, .unset]) rfl ?_
    show Steps p.tables e below (T14.setTop (mkF m 4 #[vR a0, vR b5_14, .unset, .unset, .unset] [])) _
    refine XS.aloadN X14.here hx rfl (hb hby d15_4) rfl rfl ?_
    refine X14.arraylength hx Ar16.1 (State.isArrayOf_alike hZ.alike Ar16.2.1) (g := (mkF m 5 #[vR a0, vR b5_14, .unset, .unset, .unset] [(.ref b5_14)])) rfl rfl (hb hby d15_5) _ ?_
    rw [len_of s16 n16]
    show Steps p.tables e below (T14.setTop (mkF m 6 #[vR a0, vR b5_14, .unset, .unset, .unset] [(.int (3 : Int32))])) _
    refine XS.istoreN X14.here hx rfl (hb hby d15_6) rfl (l' := #[vR a0, vR b5_14, vI (3 : Int32), .unset, .unset]) rfl ?_
    refine XS.iconst X14.here hx rfl (hb hby d15_7) ?_
    show Steps p.tables e below (T14.setTop (mkF m 8 #[vR a0, vR b5_14, vI (3 : Int32), .unset, .unset] [(.int (0 : Int32))])) _
    refine XS.istoreN X14.here hx rfl (hb hby d15_8) rfl (l' := #[vR a0, vR b5_14, vI (3 : Int32), vI (0 : Int32), .unset]) rfl ?_
    refine XS.iloadN X14.here hx rfl (hb hby d15_9) rfl ?_
    show Steps p.tables e below (T14.setTop (mkF m 10 #[vR a0, vR b5_14, vI (3 : Int32), vI (0 : Int32), .unset] [(.int (0 : Int32))])) _
    refine XS.iloadN X14.here hx rfl (hb hby d15_10) rfl ?_
    refine XS.icmpNo X14.here hx rfl (hb hby d15_11) rfl (tlt (by decide : (0 : Int32) < (3 : Int32))).2.1 ?_
    show Steps p.tables e below (T14.setTop (mkF m 14 #[vR a0, vR b5_14, vI (3 : Int32), vI (0 : Int32), .unset] [])) _
    refine XS.aloadN X14.here hx rfl (hb hby d15_14) rfl rfl ?_
    refine XS.iloadN X14.here hx rfl (hb hby d15_15) rfl ?_
    show Steps p.tables e below (T14.setTop (mkF m 16 #[vR a0, vR b5_14, vI (3 : Int32), vI (0 : Int32), .unset] [(.int (0 : Int32)), (.ref b5_14)])) _
    refine X14.aaload hx (j := (0 : Int32)) (v := (.ref w_H2)) Ar17.1 (State.isArrayOf_alike hZ.alike Ar17.2.1) rfl Ar17.2.2 hin17 hat17 (g := (mkF m 16 #[vR a0, vR b5_14, vI (3 : Int32), vI (0 : Int32), .unset] [(.int (0 : Int32)), (.ref b5_14)])) rfl rfl (hb hby d15_16) _ ?_
    refine XS.astore X14.here hx rfl (hb hby d15_17) rfl rfl (l' := #[vR a0, vR b5_14, vI (3 : Int32), vI (0 : Int32), vR w_H2]) rfl ?_
    show Steps p.tables e below (T14.setTop (mkF m 19 #[vR a0, vR b5_14, vI (3 : Int32), vI (0 : Int32), vR w_H2] [])) _
    refine XS.aload X14.here hx rfl (hb hby d15_19) rfl rfl ?_
    refine st19 _ ?_
    show Steps p.tables e below (T19.setTop (mkF m 24 #[vR a0, vR b5_14, vI (3 : Int32), vI (0 : Int32), vR w_H2] [(.ref pv_H2)])) _
    refine XS.aloadN X19.here hx rfl (hb hby d15_24) rfl rfl ?_
    refine st21.trans ?_
    show Steps p.tables e below (T21.setTop (mkF m 28 #[vR a0, vR b5_14, vI (3 : Int32), vI (0 : Int32), vR w_H2] [(.int (1 : Int32))])) _
    refine XS.ifNo X21.here hx rfl (hb hby d15_28) rfl ((if0 _ _).trans (feq (by decide : ¬ ((1 : Int32) = (0 : Int32)))).1) ?_
    refine XS.aload X21.here hx rfl (hb hby d15_31) rfl rfl ?_
    show Steps p.tables e below (T21.setTop (mkF m 33 #[vR a0, vR b5_14, vI (3 : Int32), vI (0 : Int32), vR w_H2] [(.ref w_H2)])) _
    jvm_step X21.here [X21.here.top, hx, (hb hby d15_33), X21.method', Bd.returns, Value.isRef, FieldType.isReference]
    first | (intro acts; rw [hr _ acts rfl rfl rfl]) | rw [hr _ _ rfl rfl rfl]
    exact Steps.refl _
  · show Q15a Z w_VALUES k_VALUES w_H2 w_POSTGRESQL w_MARIADB cs_a0 w_COMPACT_STRINGS pv_H2 pv_POSTGRESQL pv_MARIADB a0 h0 n0 _ T21.heap _
    rw [e21]
    exact ⟨rfl, N21, K_15⟩
theorem d15_34 : decode prog_9_method_4_code 34 = .ok (.iinc 3 1, 3) := by decide +kernel
theorem d15_37 : decode prog_9_method_4_code 37 = .ok (.goto (-28), 3) := by decide +kernel
def Q15b (Z : State) (w_VALUES : Addr) (k_VALUES : ClassId) (w_H2 : Addr) (w_POSTGRESQL : Addr) (w_MARIADB : Addr) (cs_a0 : List Int32) (w_COMPACT_STRINGS : Int32) (pv_H2 : Addr) (pv_POSTGRESQL : Addr) (pv_MARIADB : Addr) (a0 : Addr) (h0 : Heap) (n0 : Nat) (v : Option Value) (h : Heap) (L : List Loc) : Prop := v = some (.ref w_POSTGRESQL) ∧ Fr n0 L ∧ Keep h0 h []
set_option maxRecDepth 65536 in
set_option maxHeartbeats 40000000 in
theorem rm15b (l : Launch) (Z : State) (A0 : Array Value) (hw : ∀ d ∈ tables_1, d.before A0 Z = true) (ws : List Jvm.Cond) (w_VALUES : Addr) (k_VALUES : ClassId) (w_H2 : Addr) (w_POSTGRESQL : Addr) (w_MARIADB : Addr) (cs_a0 : List Int32) (w_COMPACT_STRINGS : Int32) (pv_H2 : Addr) (pv_POSTGRESQL : Addr) (pv_MARIADB : Addr) (a0 : Addr) (h0 : Heap) (n0 : Nat) (OLD : Old Z n0 h0) (f_1 : Sta Z Z.heap "com/example/seshat/seshat/jpql/Database" "$VALUES" "[Lcom/example/seshat/seshat/jpql/Database;" (.ref w_VALUES)) (f_2 : Exa Z Z.heap w_VALUES "[Lcom/example/seshat/seshat/jpql/Database;") (f_3 : Arv Z Z.heap w_VALUES k_VALUES (.object "com/example/seshat/seshat/jpql/Database") (3 : Int32) [(.ref w_H2), (.ref w_POSTGRESQL), (.ref w_MARIADB)] .null) (f_4 : own_Txt Z h0 a0 cs_a0) (f_5 : Sta Z Z.heap "java/lang/String" "COMPACT_STRINGS" "Z" (.int w_COMPACT_STRINGS)) (c_6 : ¬ (w_COMPACT_STRINGS = (0 : Int32))) (f_7 : Fld Z Z.heap w_H2 "com/example/seshat/seshat/jpql/Database" "propertyValue" "Ljava/lang/String;" (.ref pv_H2)) (f_8 : Fld Z Z.heap w_POSTGRESQL "com/example/seshat/seshat/jpql/Database" "propertyValue" "Ljava/lang/String;" (.ref pv_POSTGRESQL)) (f_9 : Fld Z Z.heap w_MARIADB "com/example/seshat/seshat/jpql/Database" "propertyValue" "Ljava/lang/String;" (.ref pv_MARIADB)) (f_10 : own_Txt Z Z.heap pv_H2 ([104, 50] : List Int32)) (f_11 : own_Txt Z Z.heap pv_POSTGRESQL ([112, 111, 115, 116, 103, 114, 101, 115, 113, 108] : List Int32)) (f_12 : own_Txt Z Z.heap pv_MARIADB ([109, 97, 114, 105, 97, 100, 98] : List Int32)) (c_13 : ¬ (cs_a0 = ([104, 50] : List Int32))) (c_14 : cs_a0 = ([112, 111, 115, 116, 103, 114, 101, 115, 113, 108] : List Int32)) :
    MetFree l (⟨"com/example/seshat/seshat/jpql/Database", "named", "(Ljava/lang/String;)Lcom/example/seshat/seshat/jpql/Database;"⟩ : MethodName) (head1 (Jvm.Cond.code (⟨"com/example/seshat/seshat/jpql/Database", "named", "(Ljava/lang/String;)Lcom/example/seshat/seshat/jpql/Database;"⟩ : MethodName) prog_9_method_4_code 5 (some (.object "com/example/seshat/seshat/jpql/Database")) :: ws) ({ frames := 2, cells := 1, slots := 3, locals := 80 } : Room)) (fun a U => a = #[(.ref a0)] ∧ Z.Warmed39 U.vm ∧ U.heap = h0) (fun _ _ _ _ _ => True) (fun _ U o U' => ∃ v L, o = .returned v ∧ Q15b Z w_VALUES k_VALUES w_H2 w_POSTGRESQL w_MARIADB cs_a0 w_COMPACT_STRINGS pv_H2 pv_POSTGRESQL pv_MARIADB a0 h0 n0 v U'.heap L ∧ FrameEnd U o U' L ({ frames := 2, cells := 1, slots := 3, locals := 80 } : Room).cells ({ frames := 2, cells := 1, slots := 3, locals := 80 } : Room).slots) := by
  refine MetFree.of_bodySF (plainFor_of_name pn_com_example_seshat_seshat_jpql_Database) hisR ?_
  intro p e s m args below meth c s₁ Bd hml0 hP hK
  obtain ⟨rfl, hZ, hh⟩ := hP
  have hx := Bd.exec
  have hby := Bd.bytes
  have hml : c.maxLocals = 5 := hml0
  have hown : s.vm.findClass "com/example/seshat/seshat/jpql/Database" = some m.cls := findClass_of_methodNamed Bd.named
  have hnm := (name_of_methodNamed Bd.named Bd.method).1
  have X0 : Stand p l e ({ frames := 2, cells := 1, slots := 3, locals := 80 } : Room) s m #[(.ref a0)] below meth c s₁ [] 0 0 := Stand.of_body Bd
  have e0 : s₁.heap = h0 := by rw [← hh, Bd.state]; rfl
  have N0 := Fr.nil n0
  have pre0 : ∀ t, Steps p.tables e below (s₁.setTop (mkF m 0 #[vR a0, .unset, .unset, .unset, .unset] [])) t → Steps p.tables e below (s₁.setTop (entryFrame m #[(.ref a0)] 5)) t := fun t k => castTop (ef_15 m a0) k
  obtain ⟨_, _, ⟨T15, L15, k15, n15⟩, -, X15, ⟨Lc15, hQ15, l15, y15, z15⟩, st15⟩ := Jvm.LawKit.callS X0 hx (y := (⟨"com/example/seshat/seshat/jpql/Database", "values", "()[Lcom/example/seshat/seshat/jpql/Database;"⟩ : MethodName)) hown (mvT hZ (hw _ (List.mem_of_getElem? (i := 72) rfl))) (mvT hZ (hw _ (List.mem_of_getElem? (i := 73) rfl))) (mvT hZ (hw _ (List.mem_of_getElem? (i := 70) rfl))) (mvT hZ (hw _ (List.mem_of_getElem? (i := 74) rfl))) (by decide) (backOf (W := 0) (rm16 l Z A0 hw [] w_VALUES k_VALUES w_H2 w_POSTGRESQL w_MARIADB h0 n0 OLD f_1 f_2 f_3) hZ (hw _ (List.mem_of_getElem? (i := 74) rfl)) (hw _ (List.mem_of_getElem? (i := 70) rfl)) (by decide) (by decide)) (g := (mkF m 0 #[vR a0, .unset, .unset, .unset, .unset] [])) rfl (by rw [hml]; rfl) (argsL := []) (rest := []) (lenOf pd_8 rfl) rfl (by show 2 * 0 + _ ≤ _; exact Nat.le_of_eq rfl) (hb hby d15_0) (fun _ _ => ⟨rfl, e0, (by decide : 0 + 1 ≤ _), (by decide : 0 + 3 ≤ _)⟩)
  dsimp only [Pt.U, Pt.locs, Pt.cells, Pt.slots] at X15 l15 y15 z15 st15 hQ15
  subst l15 y15 z15
  obtain ⟨b5_15, rfl, N15q, K15, g15_0, g15_1, g15_2⟩ := hQ15
  have N15 := Fr.app N0 N15q
  have K_16 : Keep h0 T15.heap [] := Keep.trans (Keep.refl h0 []) K15 all0
  obtain ⟨cl17, Ar17, -, s17, n17, -, -⟩ := id (g15_2)
  obtain ⟨cl18, Ar18, q18, s18, n18, hh18, gg18⟩ := id (g15_2)
  have hin18 : ¬ ((0 : Int32) < 0 ∨ cl18.slots.size ≤ ((0 : Int32)).toNatClampNeg) := inb_of s18 ⟨by decide, by decide⟩
  have hat18 : cl18.slots[((0 : Int32)).toNatClampNeg]? = some (.ref w_H2) := hh18.at hin18 rfl
  have O_19 := Old.keep OLD K15 all0
  obtain ⟨T20, X20, e20, st20⟩ := getF X15 hx hZ hown (host := "") (Or.inl (hw _ (List.mem_of_getElem? (i := 89) rfl))) Via.refl rfl (f_7.ext O_19.2) (g := (mkF m 21 #[vR a0, vR b5_15, vI (3 : Int32), vI (0 : Int32), vR w_H2] [(.ref w_H2)])) rfl rfl (hb hby d15_21)
  have f_21 := f_4.keep0 K15
  obtain ⟨cq22, kq22, q22a, q22b, q22c⟩ := isOf hZ e20 (own_Txt.exa (f_10.ext O_19.2))
  obtain ⟨_, _, ⟨T22, L22, k22, n22⟩, -, X22, ⟨Lc22, hQ22, l22, y22, z22⟩, st22⟩ := X20.virtualBack hx (y := (⟨"java/lang/String", "equals", "(Ljava/lang/Object;)Z"⟩ : MethodName)) (z := (⟨"java/lang/String", "equals", "(Ljava/lang/Object;)Z"⟩ : MethodName)) hown (mvT hZ (hw _ (List.mem_of_getElem? (i := 91) rfl))) (mvT hZ (hw _ (List.mem_of_getElem? (i := 92) rfl))) (notFace_of_selects (args := #[]) (mvT hZ (hw _ (List.mem_of_getElem? (i := 94) rfl)))) (mvT hZ (hw _ (List.mem_of_getElem? (i := 94) rfl))) (mvT hZ (hw _ (List.mem_of_getElem? (i := 93) rfl))) (by decide) (own_eqB (W := 0) (r := (0 : Int32)) hZ hw O_19 f_5 c_6 (f_10.ext O_19.2) f_21 (Or.inr ⟨rfl, fun q => c_13 q.symm⟩) (by decide) (by decide)) q22a q22c (g := (mkF m 25 #[vR a0, vR b5_15, vI (3 : Int32), vI (0 : Int32), vR w_H2] [(.ref a0), (.ref pv_H2)])) rfl (by rw [hml]; rfl) (Steps.refl _) (argsL := [(.ref a0)]) (rest := []) (lenOf pd_9 rfl) rfl (by show 2 * 0 + _ ≤ _; exact Nat.le_of_eq rfl) (hb hby d15_25) (fun _ _ => ⟨rfl, e20, (by decide : 1 + 0 ≤ _), (by decide : 3 + 0 ≤ _)⟩)
  dsimp only [Pt.U, Pt.locs, Pt.cells, Pt.slots] at X22 l22 y22 z22 st22 hQ22
  subst l22 y22 z22
  obtain ⟨rfl, N22q, e22⟩ := hQ22
  have N22 := Fr.app N15 N22q
  obtain ⟨cl23, Ar23, q23, s23, n23, hh23, gg23⟩ := id (g15_2)
  have hin23 : ¬ ((1 : Int32) < 0 ∨ cl23.slots.size ≤ ((1 : Int32)).toNatClampNeg) := inb_of s23 ⟨by decide, by decide⟩
  have hat23 : cl23.slots[((1 : Int32)).toNatClampNeg]? = some (.ref w_POSTGRESQL) := hh23.at hin23 rfl
  obtain ⟨T24, X24, e24, st24⟩ := getF X22 hx hZ hown (host := "") (Or.inl (hw _ (List.mem_of_getElem? (i := 89) rfl))) Via.refl e22 (f_8.ext O_19.2) (g := (mkF m 21 #[vR a0, vR b5_15, vI (3 : Int32), vI (1 : Int32), vR w_POSTGRESQL] [(.ref w_POSTGRESQL)])) rfl rfl (hb hby d15_21)
  obtain ⟨cq25, kq25, q25a, q25b, q25c⟩ := isOf hZ e24 (own_Txt.exa (f_11.ext O_19.2))
  obtain ⟨_, _, ⟨T25, L25, k25, n25⟩, -, X25, ⟨Lc25, hQ25, l25, y25, z25⟩, st25⟩ := X24.virtualBack hx (y := (⟨"java/lang/String", "equals", "(Ljava/lang/Object;)Z"⟩ : MethodName)) (z := (⟨"java/lang/String", "equals", "(Ljava/lang/Object;)Z"⟩ : MethodName)) hown (mvT hZ (hw _ (List.mem_of_getElem? (i := 91) rfl))) (mvT hZ (hw _ (List.mem_of_getElem? (i := 92) rfl))) (notFace_of_selects (args := #[]) (mvT hZ (hw _ (List.mem_of_getElem? (i := 94) rfl)))) (mvT hZ (hw _ (List.mem_of_getElem? (i := 94) rfl))) (mvT hZ (hw _ (List.mem_of_getElem? (i := 93) rfl))) (by decide) (own_eqB (W := 0) (r := (1 : Int32)) hZ hw O_19 f_5 c_6 (f_11.ext O_19.2) f_21 (Or.inl ⟨rfl, c_14.symm⟩) (by decide) (by decide)) q25a q25c (g := (mkF m 25 #[vR a0, vR b5_15, vI (3 : Int32), vI (1 : Int32), vR w_POSTGRESQL] [(.ref a0), (.ref pv_POSTGRESQL)])) rfl (by rw [hml]; rfl) (Steps.refl _) (argsL := [(.ref a0)]) (rest := []) (lenOf pd_9 rfl) rfl (by show 2 * 0 + _ ≤ _; exact Nat.le_of_eq rfl) (hb hby d15_25) (fun _ _ => ⟨rfl, e24, (by decide : 1 + 0 ≤ _), (by decide : 3 + 0 ≤ _)⟩)
  dsimp only [Pt.U, Pt.locs, Pt.cells, Pt.slots] at X25 l25 y25 z25 st25 hQ25
  subst l25 y25 z25
  obtain ⟨rfl, N25q, e25⟩ := hQ25
  have N25 := Fr.app N22 N25q
  obtain ⟨fs, hr, hrun, hended, hW, hsame⟩ := X25.leave (v := some (.ref w_POSTGRESQL)) (fun h => by rw [Bd.returns] at h; cases h)
  refine ⟨_, _, pre0 _ ?_, hrun, hended, _, _, rfl, ?_, ⟨_, rfl⟩, hW, hsame.mono (by decide) (by decide)⟩
  · show Steps p.tables e below (s₁.setTop (mkF m 0 #[vR a0, .unset, .unset, .unset, .unset] [])) _
    refine st15 _ ?_
    refine XS.astoreN X15.here hx rfl (hb hby d15_3) rfl rfl (l' := #[vR a0, vR b5_15, .unset, .unset, .unset]) rfl ?_
    show Steps p.tables e below (T15.setTop (mkF m 4 #[vR a0, vR b5_15, .unset, .unset, .unset] [])) _
    refine XS.aloadN X15.here hx rfl (hb hby d15_4) rfl rfl ?_
    refine X15.arraylength hx Ar17.1 (State.isArrayOf_alike hZ.alike Ar17.2.1) (g := (mkF m 5 #[vR a0, vR b5_15, .unset, .unset, .unset] [(.ref b5_15)])) rfl rfl (hb hby d15_5) _ ?_
    rw [len_of s17 n17]
    show Steps p.tables e below (T15.setTop (mkF m 6 #[vR a0, vR b5_15, .unset, .unset, .unset] [(.int (3 : Int32))])) _
    refine XS.istoreN X15.here hx rfl (hb hby d15_6) rfl (l' := #[vR a0, vR b5_15, vI (3 : Int32), .unset, .unset]) rfl ?_
    refine XS.iconst X15.here hx rfl (hb hby d15_7) ?_
    show Steps p.tables e below (T15.setTop (mkF m 8 #[vR a0, vR b5_15, vI (3 : Int32), .unset, .unset] [(.int (0 : Int32))])) _
    refine XS.istoreN X15.here hx rfl (hb hby d15_8) rfl (l' := #[vR a0, vR b5_15, vI (3 : Int32), vI (0 : Int32), .unset]) rfl ?_
    refine XS.iloadN X15.here hx rfl (hb hby d15_9) rfl ?_
    show Steps p.tables e below (T15.setTop (mkF m 10 #[vR a0, vR b5_15, vI (3 : Int32), vI (0 : Int32), .unset] [(.int (0 : Int32))])) _
    refine XS.iloadN X15.here hx rfl (hb hby d15_10) rfl ?_
    refine XS.icmpNo X15.here hx rfl (hb hby d15_11) rfl (tlt (by decide : (0 : Int32) < (3 : Int32))).2.1 ?_
    show Steps p.tables e below (T15.setTop (mkF m 14 #[vR a0, vR b5_15, vI (3 : Int32), vI (0 : Int32), .unset] [])) _
    refine XS.aloadN X15.here hx rfl (hb hby d15_14) rfl rfl ?_
    refine XS.iloadN X15.here hx rfl (hb hby d15_15) rfl ?_
    show Steps p.tables e below (T15.setTop (mkF m 16 #[vR a0, vR b5_15, vI (3 : Int32), vI (0 : Int32), .unset] [(.int (0 : Int32)), (.ref b5_15)])) _
    refine X15.aaload hx (j := (0 : Int32)) (v := (.ref w_H2)) Ar18.1 (State.isArrayOf_alike hZ.alike Ar18.2.1) rfl Ar18.2.2 hin18 hat18 (g := (mkF m 16 #[vR a0, vR b5_15, vI (3 : Int32), vI (0 : Int32), .unset] [(.int (0 : Int32)), (.ref b5_15)])) rfl rfl (hb hby d15_16) _ ?_
    refine XS.astore X15.here hx rfl (hb hby d15_17) rfl rfl (l' := #[vR a0, vR b5_15, vI (3 : Int32), vI (0 : Int32), vR w_H2]) rfl ?_
    show Steps p.tables e below (T15.setTop (mkF m 19 #[vR a0, vR b5_15, vI (3 : Int32), vI (0 : Int32), vR w_H2] [])) _
    refine XS.aload X15.here hx rfl (hb hby d15_19) rfl rfl ?_
    refine st20 _ ?_
    show Steps p.tables e below (T20.setTop (mkF m 24 #[vR a0, vR b5_15, vI (3 : Int32), vI (0 : Int32), vR w_H2] [(.ref pv_H2)])) _
    refine XS.aloadN X20.here hx rfl (hb hby d15_24) rfl rfl ?_
    refine st22.trans ?_
    show Steps p.tables e below (T22.setTop (mkF m 28 #[vR a0, vR b5_15, vI (3 : Int32), vI (0 : Int32), vR w_H2] [(.int (0 : Int32))])) _
    refine XS.ifYes X22.here hx rfl (pc0 := 28) (pc' := 34) rfl (hb hby d15_28) rfl ((if0 _ _).trans (teq (by decide : (0 : Int32) = (0 : Int32))).1) (by decide) (by decide) ?_
    refine XS.iinc X22.here hx rfl (hb hby d15_34) rfl (l' := #[vR a0, vR b5_15, vI (3 : Int32), vI (1 : Int32), vR w_H2]) rfl ?_
    show Steps p.tables e below (T22.setTop (mkF m 37 #[vR a0, vR b5_15, vI (3 : Int32), vI (1 : Int32), vR w_H2] [])) _
    refine XS.goto X22.here hx rfl (pc0 := 37) (pc' := 9) rfl (hb hby d15_37) (by decide) (by decide) ?_
    refine XS.iloadN X22.here hx rfl (hb hby d15_9) rfl ?_
    show Steps p.tables e below (T22.setTop (mkF m 10 #[vR a0, vR b5_15, vI (3 : Int32), vI (1 : Int32), vR w_H2] [(.int (1 : Int32))])) _
    refine XS.iloadN X22.here hx rfl (hb hby d15_10) rfl ?_
    refine XS.icmpNo X22.here hx rfl (hb hby d15_11) rfl (tlt (by decide : (1 : Int32) < (3 : Int32))).2.1 ?_
    show Steps p.tables e below (T22.setTop (mkF m 14 #[vR a0, vR b5_15, vI (3 : Int32), vI (1 : Int32), vR w_H2] [])) _
    refine XS.aloadN X22.here hx rfl (hb hby d15_14) rfl rfl ?_
    refine XS.iloadN X22.here hx rfl (hb hby d15_15) rfl ?_
    show Steps p.tables e below (T22.setTop (mkF m 16 #[vR a0, vR b5_15, vI (3 : Int32), vI (1 : Int32), vR w_H2] [(.int (1 : Int32)), (.ref b5_15)])) _
    refine X22.aaload hx (j := (1 : Int32)) (v := (.ref w_POSTGRESQL)) (by rw [e22]; exact Ar23.1) (State.isArrayOf_alike hZ.alike Ar23.2.1) rfl Ar23.2.2 hin23 hat23 (g := (mkF m 16 #[vR a0, vR b5_15, vI (3 : Int32), vI (1 : Int32), vR w_H2] [(.int (1 : Int32)), (.ref b5_15)])) rfl rfl (hb hby d15_16) _ ?_
    refine XS.astore X22.here hx rfl (hb hby d15_17) rfl rfl (l' := #[vR a0, vR b5_15, vI (3 : Int32), vI (1 : Int32), vR w_POSTGRESQL]) rfl ?_
    show Steps p.tables e below (T22.setTop (mkF m 19 #[vR a0, vR b5_15, vI (3 : Int32), vI (1 : Int32), vR w_POSTGRESQL] [])) _
    refine XS.aload X22.here hx rfl (hb hby d15_19) rfl rfl ?_
    refine st24 _ ?_
    show Steps p.tables e below (T24.setTop (mkF m 24 #[vR a0, vR b5_15, vI (3 : Int32), vI (1 : Int32), vR w_POSTGRESQL] [(.ref pv_POSTGRESQL)])) _
    refine XS.aloadN X24.here hx rfl (hb hby d15_24) rfl rfl ?_
    refine st25.trans ?_
    show Steps p.tables e below (T25.setTop (mkF m 28 #[vR a0, vR b5_15, vI (3 : Int32), vI (1 : Int32), vR w_POSTGRESQL] [(.int (1 : Int32))])) _
    refine XS.ifNo X25.here hx rfl (hb hby d15_28) rfl ((if0 _ _).trans (feq (by decide : ¬ ((1 : Int32) = (0 : Int32)))).1) ?_
    refine XS.aload X25.here hx rfl (hb hby d15_31) rfl rfl ?_
    show Steps p.tables e below (T25.setTop (mkF m 33 #[vR a0, vR b5_15, vI (3 : Int32), vI (1 : Int32), vR w_POSTGRESQL] [(.ref w_POSTGRESQL)])) _
    jvm_step X25.here [X25.here.top, hx, (hb hby d15_33), X25.method', Bd.returns, Value.isRef, FieldType.isReference]
    first | (intro acts; rw [hr _ acts rfl rfl rfl]) | rw [hr _ _ rfl rfl rfl]
    exact Steps.refl _
  · show Q15b Z w_VALUES k_VALUES w_H2 w_POSTGRESQL w_MARIADB cs_a0 w_COMPACT_STRINGS pv_H2 pv_POSTGRESQL pv_MARIADB a0 h0 n0 _ T25.heap _
    rw [e25]
    exact ⟨rfl, N25, K_16⟩
def Q15c (Z : State) (w_VALUES : Addr) (k_VALUES : ClassId) (w_H2 : Addr) (w_POSTGRESQL : Addr) (w_MARIADB : Addr) (cs_a0 : List Int32) (w_COMPACT_STRINGS : Int32) (pv_H2 : Addr) (pv_POSTGRESQL : Addr) (pv_MARIADB : Addr) (a0 : Addr) (h0 : Heap) (n0 : Nat) (v : Option Value) (h : Heap) (L : List Loc) : Prop := v = some (.ref w_MARIADB) ∧ Fr n0 L ∧ Keep h0 h []
set_option maxRecDepth 65536 in
set_option maxHeartbeats 40000000 in
theorem rm15c (l : Launch) (Z : State) (A0 : Array Value) (hw : ∀ d ∈ tables_1, d.before A0 Z = true) (ws : List Jvm.Cond) (w_VALUES : Addr) (k_VALUES : ClassId) (w_H2 : Addr) (w_POSTGRESQL : Addr) (w_MARIADB : Addr) (cs_a0 : List Int32) (w_COMPACT_STRINGS : Int32) (pv_H2 : Addr) (pv_POSTGRESQL : Addr) (pv_MARIADB : Addr) (a0 : Addr) (h0 : Heap) (n0 : Nat) (OLD : Old Z n0 h0) (f_1 : Sta Z Z.heap "com/example/seshat/seshat/jpql/Database" "$VALUES" "[Lcom/example/seshat/seshat/jpql/Database;" (.ref w_VALUES)) (f_2 : Exa Z Z.heap w_VALUES "[Lcom/example/seshat/seshat/jpql/Database;") (f_3 : Arv Z Z.heap w_VALUES k_VALUES (.object "com/example/seshat/seshat/jpql/Database") (3 : Int32) [(.ref w_H2), (.ref w_POSTGRESQL), (.ref w_MARIADB)] .null) (f_4 : own_Txt Z h0 a0 cs_a0) (f_5 : Sta Z Z.heap "java/lang/String" "COMPACT_STRINGS" "Z" (.int w_COMPACT_STRINGS)) (c_6 : ¬ (w_COMPACT_STRINGS = (0 : Int32))) (f_7 : Fld Z Z.heap w_H2 "com/example/seshat/seshat/jpql/Database" "propertyValue" "Ljava/lang/String;" (.ref pv_H2)) (f_8 : Fld Z Z.heap w_POSTGRESQL "com/example/seshat/seshat/jpql/Database" "propertyValue" "Ljava/lang/String;" (.ref pv_POSTGRESQL)) (f_9 : Fld Z Z.heap w_MARIADB "com/example/seshat/seshat/jpql/Database" "propertyValue" "Ljava/lang/String;" (.ref pv_MARIADB)) (f_10 : own_Txt Z Z.heap pv_H2 ([104, 50] : List Int32)) (f_11 : own_Txt Z Z.heap pv_POSTGRESQL ([112, 111, 115, 116, 103, 114, 101, 115, 113, 108] : List Int32)) (f_12 : own_Txt Z Z.heap pv_MARIADB ([109, 97, 114, 105, 97, 100, 98] : List Int32)) (c_13 : ¬ (cs_a0 = ([104, 50] : List Int32))) (c_14 : ¬ (cs_a0 = ([112, 111, 115, 116, 103, 114, 101, 115, 113, 108] : List Int32))) (c_15 : cs_a0 = ([109, 97, 114, 105, 97, 100, 98] : List Int32)) :
    MetFree l (⟨"com/example/seshat/seshat/jpql/Database", "named", "(Ljava/lang/String;)Lcom/example/seshat/seshat/jpql/Database;"⟩ : MethodName) (head1 (Jvm.Cond.code (⟨"com/example/seshat/seshat/jpql/Database", "named", "(Ljava/lang/String;)Lcom/example/seshat/seshat/jpql/Database;"⟩ : MethodName) prog_9_method_4_code 5 (some (.object "com/example/seshat/seshat/jpql/Database")) :: ws) ({ frames := 2, cells := 1, slots := 3, locals := 80 } : Room)) (fun a U => a = #[(.ref a0)] ∧ Z.Warmed39 U.vm ∧ U.heap = h0) (fun _ _ _ _ _ => True) (fun _ U o U' => ∃ v L, o = .returned v ∧ Q15c Z w_VALUES k_VALUES w_H2 w_POSTGRESQL w_MARIADB cs_a0 w_COMPACT_STRINGS pv_H2 pv_POSTGRESQL pv_MARIADB a0 h0 n0 v U'.heap L ∧ FrameEnd U o U' L ({ frames := 2, cells := 1, slots := 3, locals := 80 } : Room).cells ({ frames := 2, cells := 1, slots := 3, locals := 80 } : Room).slots) := by
  refine MetFree.of_bodySF (plainFor_of_name pn_com_example_seshat_seshat_jpql_Database) hisR ?_
  intro p e s m args below meth c s₁ Bd hml0 hP hK
  obtain ⟨rfl, hZ, hh⟩ := hP
  have hx := Bd.exec
  have hby := Bd.bytes
  have hml : c.maxLocals = 5 := hml0
  have hown : s.vm.findClass "com/example/seshat/seshat/jpql/Database" = some m.cls := findClass_of_methodNamed Bd.named
  have hnm := (name_of_methodNamed Bd.named Bd.method).1
  have X0 : Stand p l e ({ frames := 2, cells := 1, slots := 3, locals := 80 } : Room) s m #[(.ref a0)] below meth c s₁ [] 0 0 := Stand.of_body Bd
  have e0 : s₁.heap = h0 := by rw [← hh, Bd.state]; rfl
  have N0 := Fr.nil n0
  have pre0 : ∀ t, Steps p.tables e below (s₁.setTop (mkF m 0 #[vR a0, .unset, .unset, .unset, .unset] [])) t → Steps p.tables e below (s₁.setTop (entryFrame m #[(.ref a0)] 5)) t := fun t k => castTop (ef_15 m a0) k
  obtain ⟨_, _, ⟨T16, L16, k16, n16⟩, -, X16, ⟨Lc16, hQ16, l16, y16, z16⟩, st16⟩ := Jvm.LawKit.callS X0 hx (y := (⟨"com/example/seshat/seshat/jpql/Database", "values", "()[Lcom/example/seshat/seshat/jpql/Database;"⟩ : MethodName)) hown (mvT hZ (hw _ (List.mem_of_getElem? (i := 72) rfl))) (mvT hZ (hw _ (List.mem_of_getElem? (i := 73) rfl))) (mvT hZ (hw _ (List.mem_of_getElem? (i := 70) rfl))) (mvT hZ (hw _ (List.mem_of_getElem? (i := 74) rfl))) (by decide) (backOf (W := 0) (rm16 l Z A0 hw [] w_VALUES k_VALUES w_H2 w_POSTGRESQL w_MARIADB h0 n0 OLD f_1 f_2 f_3) hZ (hw _ (List.mem_of_getElem? (i := 74) rfl)) (hw _ (List.mem_of_getElem? (i := 70) rfl)) (by decide) (by decide)) (g := (mkF m 0 #[vR a0, .unset, .unset, .unset, .unset] [])) rfl (by rw [hml]; rfl) (argsL := []) (rest := []) (lenOf pd_8 rfl) rfl (by show 2 * 0 + _ ≤ _; exact Nat.le_of_eq rfl) (hb hby d15_0) (fun _ _ => ⟨rfl, e0, (by decide : 0 + 1 ≤ _), (by decide : 0 + 3 ≤ _)⟩)
  dsimp only [Pt.U, Pt.locs, Pt.cells, Pt.slots] at X16 l16 y16 z16 st16 hQ16
  subst l16 y16 z16
  obtain ⟨b5_16, rfl, N16q, K16, g16_0, g16_1, g16_2⟩ := hQ16
  have N16 := Fr.app N0 N16q
  have K_17 : Keep h0 T16.heap [] := Keep.trans (Keep.refl h0 []) K16 all0
  obtain ⟨cl18, Ar18, -, s18, n18, -, -⟩ := id (g16_2)
  obtain ⟨cl19, Ar19, q19, s19, n19, hh19, gg19⟩ := id (g16_2)
  have hin19 : ¬ ((0 : Int32) < 0 ∨ cl19.slots.size ≤ ((0 : Int32)).toNatClampNeg) := inb_of s19 ⟨by decide, by decide⟩
  have hat19 : cl19.slots[((0 : Int32)).toNatClampNeg]? = some (.ref w_H2) := hh19.at hin19 rfl
  have O_20 := Old.keep OLD K16 all0
  obtain ⟨T21, X21, e21, st21⟩ := getF X16 hx hZ hown (host := "") (Or.inl (hw _ (List.mem_of_getElem? (i := 89) rfl))) Via.refl rfl (f_7.ext O_20.2) (g := (mkF m 21 #[vR a0, vR b5_16, vI (3 : Int32), vI (0 : Int32), vR w_H2] [(.ref w_H2)])) rfl rfl (hb hby d15_21)
  have f_22 := f_4.keep0 K16
  obtain ⟨cq23, kq23, q23a, q23b, q23c⟩ := isOf hZ e21 (own_Txt.exa (f_10.ext O_20.2))
  obtain ⟨_, _, ⟨T23, L23, k23, n23⟩, -, X23, ⟨Lc23, hQ23, l23, y23, z23⟩, st23⟩ := X21.virtualBack hx (y := (⟨"java/lang/String", "equals", "(Ljava/lang/Object;)Z"⟩ : MethodName)) (z := (⟨"java/lang/String", "equals", "(Ljava/lang/Object;)Z"⟩ : MethodName)) hown (mvT hZ (hw _ (List.mem_of_getElem? (i := 91) rfl))) (mvT hZ (hw _ (List.mem_of_getElem? (i := 92) rfl))) (notFace_of_selects (args := #[]) (mvT hZ (hw _ (List.mem_of_getElem? (i := 94) rfl)))) (mvT hZ (hw _ (List.mem_of_getElem? (i := 94) rfl))) (mvT hZ (hw _ (List.mem_of_getElem? (i := 93) rfl))) (by decide) (own_eqB (W := 0) (r := (0 : Int32)) hZ hw O_20 f_5 c_6 (f_10.ext O_20.2) f_22 (Or.inr ⟨rfl, fun q => c_13 q.symm⟩) (by decide) (by decide)) q23a q23c (g := (mkF m 25 #[vR a0, vR b5_16, vI (3 : Int32), vI (0 : Int32), vR w_H2] [(.ref a0), (.ref pv_H2)])) rfl (by rw [hml]; rfl) (Steps.refl _) (argsL := [(.ref a0)]) (rest := []) (lenOf pd_9 rfl) rfl (by show 2 * 0 + _ ≤ _; exact Nat.le_of_eq rfl) (hb hby d15_25) (fun _ _ => ⟨rfl, e21, (by decide : 1 + 0 ≤ _), (by decide : 3 + 0 ≤ _)⟩)
  dsimp only [Pt.U, Pt.locs, Pt.cells, Pt.slots] at X23 l23 y23 z23 st23 hQ23
  subst l23 y23 z23
  obtain ⟨rfl, N23q, e23⟩ := hQ23
  have N23 := Fr.app N16 N23q
  obtain ⟨cl24, Ar24, q24, s24, n24, hh24, gg24⟩ := id (g16_2)
  have hin24 : ¬ ((1 : Int32) < 0 ∨ cl24.slots.size ≤ ((1 : Int32)).toNatClampNeg) := inb_of s24 ⟨by decide, by decide⟩
  have hat24 : cl24.slots[((1 : Int32)).toNatClampNeg]? = some (.ref w_POSTGRESQL) := hh24.at hin24 rfl
  obtain ⟨T25, X25, e25, st25⟩ := getF X23 hx hZ hown (host := "") (Or.inl (hw _ (List.mem_of_getElem? (i := 89) rfl))) Via.refl e23 (f_8.ext O_20.2) (g := (mkF m 21 #[vR a0, vR b5_16, vI (3 : Int32), vI (1 : Int32), vR w_POSTGRESQL] [(.ref w_POSTGRESQL)])) rfl rfl (hb hby d15_21)
  obtain ⟨cq26, kq26, q26a, q26b, q26c⟩ := isOf hZ e25 (own_Txt.exa (f_11.ext O_20.2))
  obtain ⟨_, _, ⟨T26, L26, k26, n26⟩, -, X26, ⟨Lc26, hQ26, l26, y26, z26⟩, st26⟩ := X25.virtualBack hx (y := (⟨"java/lang/String", "equals", "(Ljava/lang/Object;)Z"⟩ : MethodName)) (z := (⟨"java/lang/String", "equals", "(Ljava/lang/Object;)Z"⟩ : MethodName)) hown (mvT hZ (hw _ (List.mem_of_getElem? (i := 91) rfl))) (mvT hZ (hw _ (List.mem_of_getElem? (i := 92) rfl))) (notFace_of_selects (args := #[]) (mvT hZ (hw _ (List.mem_of_getElem? (i := 94) rfl)))) (mvT hZ (hw _ (List.mem_of_getElem? (i := 94) rfl))) (mvT hZ (hw _ (List.mem_of_getElem? (i := 93) rfl))) (by decide) (own_eqB (W := 0) (r := (0 : Int32)) hZ hw O_20 f_5 c_6 (f_11.ext O_20.2) f_22 (Or.inr ⟨rfl, fun q => c_14 q.symm⟩) (by decide) (by decide)) q26a q26c (g := (mkF m 25 #[vR a0, vR b5_16, vI (3 : Int32), vI (1 : Int32), vR w_POSTGRESQL] [(.ref a0), (.ref pv_POSTGRESQL)])) rfl (by rw [hml]; rfl) (Steps.refl _) (argsL := [(.ref a0)]) (rest := []) (lenOf pd_9 rfl) rfl (by show 2 * 0 + _ ≤ _; exact Nat.le_of_eq rfl) (hb hby d15_25) (fun _ _ => ⟨rfl, e25, (by decide : 1 + 0 ≤ _), (by decide : 3 + 0 ≤ _)⟩)
  dsimp only [Pt.U, Pt.locs, Pt.cells, Pt.slots] at X26 l26 y26 z26 st26 hQ26
  subst l26 y26 z26
  obtain ⟨rfl, N26q, e26⟩ := hQ26
  have N26 := Fr.app N23 N26q
  obtain ⟨cl27, Ar27, q27, s27, n27, hh27, gg27⟩ := id (g16_2)
  have hin27 : ¬ ((2 : Int32) < 0 ∨ cl27.slots.size ≤ ((2 : Int32)).toNatClampNeg) := inb_of s27 ⟨by decide, by decide⟩
  have hat27 : cl27.slots[((2 : Int32)).toNatClampNeg]? = some (.ref w_MARIADB) := hh27.at hin27 rfl
  obtain ⟨T28, X28, e28, st28⟩ := getF X26 hx hZ hown (host := "") (Or.inl (hw _ (List.mem_of_getElem? (i := 89) rfl))) Via.refl e26 (f_9.ext O_20.2) (g := (mkF m 21 #[vR a0, vR b5_16, vI (3 : Int32), vI (2 : Int32), vR w_MARIADB] [(.ref w_MARIADB)])) rfl rfl (hb hby d15_21)
  obtain ⟨cq29, kq29, q29a, q29b, q29c⟩ := isOf hZ e28 (own_Txt.exa (f_12.ext O_20.2))
  obtain ⟨_, _, ⟨T29, L29, k29, n29⟩, -, X29, ⟨Lc29, hQ29, l29, y29, z29⟩, st29⟩ := X28.virtualBack hx (y := (⟨"java/lang/String", "equals", "(Ljava/lang/Object;)Z"⟩ : MethodName)) (z := (⟨"java/lang/String", "equals", "(Ljava/lang/Object;)Z"⟩ : MethodName)) hown (mvT hZ (hw _ (List.mem_of_getElem? (i := 91) rfl))) (mvT hZ (hw _ (List.mem_of_getElem? (i := 92) rfl))) (notFace_of_selects (args := #[]) (mvT hZ (hw _ (List.mem_of_getElem? (i := 94) rfl)))) (mvT hZ (hw _ (List.mem_of_getElem? (i := 94) rfl))) (mvT hZ (hw _ (List.mem_of_getElem? (i := 93) rfl))) (by decide) (own_eqB (W := 0) (r := (1 : Int32)) hZ hw O_20 f_5 c_6 (f_12.ext O_20.2) f_22 (Or.inl ⟨rfl, c_15.symm⟩) (by decide) (by decide)) q29a q29c (g := (mkF m 25 #[vR a0, vR b5_16, vI (3 : Int32), vI (2 : Int32), vR w_MARIADB] [(.ref a0), (.ref pv_MARIADB)])) rfl (by rw [hml]; rfl) (Steps.refl _) (argsL := [(.ref a0)]) (rest := []) (lenOf pd_9 rfl) rfl (by show 2 * 0 + _ ≤ _; exact Nat.le_of_eq rfl) (hb hby d15_25) (fun _ _ => ⟨rfl, e28, (by decide : 1 + 0 ≤ _), (by decide : 3 + 0 ≤ _)⟩)
  dsimp only [Pt.U, Pt.locs, Pt.cells, Pt.slots] at X29 l29 y29 z29 st29 hQ29
  subst l29 y29 z29
  obtain ⟨rfl, N29q, e29⟩ := hQ29
  have N29 := Fr.app N26 N29q
  obtain ⟨fs, hr, hrun, hended, hW, hsame⟩ := X29.leave (v := some (.ref w_MARIADB)) (fun h => by rw [Bd.returns] at h; cases h)
  refine ⟨_, _, pre0 _ ?_, hrun, hended, _, _, rfl, ?_, ⟨_, rfl⟩, hW, hsame.mono (by decide) (by decide)⟩
  · show Steps p.tables e below (s₁.setTop (mkF m 0 #[vR a0, .unset, .unset, .unset, .unset] [])) _
    refine st16 _ ?_
    refine XS.astoreN X16.here hx rfl (hb hby d15_3) rfl rfl (l' := #[vR a0, vR b5_16, .unset, .unset, .unset]) rfl ?_
    show Steps p.tables e below (T16.setTop (mkF m 4 #[vR a0, vR b5_16, .unset, .unset, .unset] [])) _
    refine XS.aloadN X16.here hx rfl (hb hby d15_4) rfl rfl ?_
    refine X16.arraylength hx Ar18.1 (State.isArrayOf_alike hZ.alike Ar18.2.1) (g := (mkF m 5 #[vR a0, vR b5_16, .unset, .unset, .unset] [(.ref b5_16)])) rfl rfl (hb hby d15_5) _ ?_
    rw [len_of s18 n18]
    show Steps p.tables e below (T16.setTop (mkF m 6 #[vR a0, vR b5_16, .unset, .unset, .unset] [(.int (3 : Int32))])) _
    refine XS.istoreN X16.here hx rfl (hb hby d15_6) rfl (l' := #[vR a0, vR b5_16, vI (3 : Int32), .unset, .unset]) rfl ?_
    refine XS.iconst X16.here hx rfl (hb hby d15_7) ?_
    show Steps p.tables e below (T16.setTop (mkF m 8 #[vR a0, vR b5_16, vI (3 : Int32), .unset, .unset] [(.int (0 : Int32))])) _
    refine XS.istoreN X16.here hx rfl (hb hby d15_8) rfl (l' := #[vR a0, vR b5_16, vI (3 : Int32), vI (0 : Int32), .unset]) rfl ?_
    refine XS.iloadN X16.here hx rfl (hb hby d15_9) rfl ?_
    show Steps p.tables e below (T16.setTop (mkF m 10 #[vR a0, vR b5_16, vI (3 : Int32), vI (0 : Int32), .unset] [(.int (0 : Int32))])) _
    refine XS.iloadN X16.here hx rfl (hb hby d15_10) rfl ?_
    refine XS.icmpNo X16.here hx rfl (hb hby d15_11) rfl (tlt (by decide : (0 : Int32) < (3 : Int32))).2.1 ?_
    show Steps p.tables e below (T16.setTop (mkF m 14 #[vR a0, vR b5_16, vI (3 : Int32), vI (0 : Int32), .unset] [])) _
    refine XS.aloadN X16.here hx rfl (hb hby d15_14) rfl rfl ?_
    refine XS.iloadN X16.here hx rfl (hb hby d15_15) rfl ?_
    show Steps p.tables e below (T16.setTop (mkF m 16 #[vR a0, vR b5_16, vI (3 : Int32), vI (0 : Int32), .unset] [(.int (0 : Int32)), (.ref b5_16)])) _
    refine X16.aaload hx (j := (0 : Int32)) (v := (.ref w_H2)) Ar19.1 (State.isArrayOf_alike hZ.alike Ar19.2.1) rfl Ar19.2.2 hin19 hat19 (g := (mkF m 16 #[vR a0, vR b5_16, vI (3 : Int32), vI (0 : Int32), .unset] [(.int (0 : Int32)), (.ref b5_16)])) rfl rfl (hb hby d15_16) _ ?_
    refine XS.astore X16.here hx rfl (hb hby d15_17) rfl rfl (l' := #[vR a0, vR b5_16, vI (3 : Int32), vI (0 : Int32), vR w_H2]) rfl ?_
    show Steps p.tables e below (T16.setTop (mkF m 19 #[vR a0, vR b5_16, vI (3 : Int32), vI (0 : Int32), vR w_H2] [])) _
    refine XS.aload X16.here hx rfl (hb hby d15_19) rfl rfl ?_
    refine st21 _ ?_
    show Steps p.tables e below (T21.setTop (mkF m 24 #[vR a0, vR b5_16, vI (3 : Int32), vI (0 : Int32), vR w_H2] [(.ref pv_H2)])) _
    refine XS.aloadN X21.here hx rfl (hb hby d15_24) rfl rfl ?_
    refine st23.trans ?_
    show Steps p.tables e below (T23.setTop (mkF m 28 #[vR a0, vR b5_16, vI (3 : Int32), vI (0 : Int32), vR w_H2] [(.int (0 : Int32))])) _
    refine XS.ifYes X23.here hx rfl (pc0 := 28) (pc' := 34) rfl (hb hby d15_28) rfl ((if0 _ _).trans (teq (by decide : (0 : Int32) = (0 : Int32))).1) (by decide) (by decide) ?_
    refine XS.iinc X23.here hx rfl (hb hby d15_34) rfl (l' := #[vR a0, vR b5_16, vI (3 : Int32), vI (1 : Int32), vR w_H2]) rfl ?_
    show Steps p.tables e below (T23.setTop (mkF m 37 #[vR a0, vR b5_16, vI (3 : Int32), vI (1 : Int32), vR w_H2] [])) _
    refine XS.goto X23.here hx rfl (pc0 := 37) (pc' := 9) rfl (hb hby d15_37) (by decide) (by decide) ?_
    refine XS.iloadN X23.here hx rfl (hb hby d15_9) rfl ?_
    show Steps p.tables e below (T23.setTop (mkF m 10 #[vR a0, vR b5_16, vI (3 : Int32), vI (1 : Int32), vR w_H2] [(.int (1 : Int32))])) _
    refine XS.iloadN X23.here hx rfl (hb hby d15_10) rfl ?_
    refine XS.icmpNo X23.here hx rfl (hb hby d15_11) rfl (tlt (by decide : (1 : Int32) < (3 : Int32))).2.1 ?_
    show Steps p.tables e below (T23.setTop (mkF m 14 #[vR a0, vR b5_16, vI (3 : Int32), vI (1 : Int32), vR w_H2] [])) _
    refine XS.aloadN X23.here hx rfl (hb hby d15_14) rfl rfl ?_
    refine XS.iloadN X23.here hx rfl (hb hby d15_15) rfl ?_
    show Steps p.tables e below (T23.setTop (mkF m 16 #[vR a0, vR b5_16, vI (3 : Int32), vI (1 : Int32), vR w_H2] [(.int (1 : Int32)), (.ref b5_16)])) _
    refine X23.aaload hx (j := (1 : Int32)) (v := (.ref w_POSTGRESQL)) (by rw [e23]; exact Ar24.1) (State.isArrayOf_alike hZ.alike Ar24.2.1) rfl Ar24.2.2 hin24 hat24 (g := (mkF m 16 #[vR a0, vR b5_16, vI (3 : Int32), vI (1 : Int32), vR w_H2] [(.int (1 : Int32)), (.ref b5_16)])) rfl rfl (hb hby d15_16) _ ?_
    refine XS.astore X23.here hx rfl (hb hby d15_17) rfl rfl (l' := #[vR a0, vR b5_16, vI (3 : Int32), vI (1 : Int32), vR w_POSTGRESQL]) rfl ?_
    show Steps p.tables e below (T23.setTop (mkF m 19 #[vR a0, vR b5_16, vI (3 : Int32), vI (1 : Int32), vR w_POSTGRESQL] [])) _
    refine XS.aload X23.here hx rfl (hb hby d15_19) rfl rfl ?_
    refine st25 _ ?_
    show Steps p.tables e below (T25.setTop (mkF m 24 #[vR a0, vR b5_16, vI (3 : Int32), vI (1 : Int32), vR w_POSTGRESQL] [(.ref pv_POSTGRESQL)])) _
    refine XS.aloadN X25.here hx rfl (hb hby d15_24) rfl rfl ?_
    refine st26.trans ?_
    show Steps p.tables e below (T26.setTop (mkF m 28 #[vR a0, vR b5_16, vI (3 : Int32), vI (1 : Int32), vR w_POSTGRESQL] [(.int (0 : Int32))])) _
    refine XS.ifYes X26.here hx rfl (pc0 := 28) (pc' := 34) rfl (hb hby d15_28) rfl ((if0 _ _).trans (teq (by decide : (0 : Int32) = (0 : Int32))).1) (by decide) (by decide) ?_
    refine XS.iinc X26.here hx rfl (hb hby d15_34) rfl (l' := #[vR a0, vR b5_16, vI (3 : Int32), vI (2 : Int32), vR w_POSTGRESQL]) rfl ?_
    show Steps p.tables e below (T26.setTop (mkF m 37 #[vR a0, vR b5_16, vI (3 : Int32), vI (2 : Int32), vR w_POSTGRESQL] [])) _
    refine XS.goto X26.here hx rfl (pc0 := 37) (pc' := 9) rfl (hb hby d15_37) (by decide) (by decide) ?_
    refine XS.iloadN X26.here hx rfl (hb hby d15_9) rfl ?_
    show Steps p.tables e below (T26.setTop (mkF m 10 #[vR a0, vR b5_16, vI (3 : Int32), vI (2 : Int32), vR w_POSTGRESQL] [(.int (2 : Int32))])) _
    refine XS.iloadN X26.here hx rfl (hb hby d15_10) rfl ?_
    refine XS.icmpNo X26.here hx rfl (hb hby d15_11) rfl (tlt (by decide : (2 : Int32) < (3 : Int32))).2.1 ?_
    show Steps p.tables e below (T26.setTop (mkF m 14 #[vR a0, vR b5_16, vI (3 : Int32), vI (2 : Int32), vR w_POSTGRESQL] [])) _
    refine XS.aloadN X26.here hx rfl (hb hby d15_14) rfl rfl ?_
    refine XS.iloadN X26.here hx rfl (hb hby d15_15) rfl ?_
    show Steps p.tables e below (T26.setTop (mkF m 16 #[vR a0, vR b5_16, vI (3 : Int32), vI (2 : Int32), vR w_POSTGRESQL] [(.int (2 : Int32)), (.ref b5_16)])) _
    refine X26.aaload hx (j := (2 : Int32)) (v := (.ref w_MARIADB)) (by rw [e26]; exact Ar27.1) (State.isArrayOf_alike hZ.alike Ar27.2.1) rfl Ar27.2.2 hin27 hat27 (g := (mkF m 16 #[vR a0, vR b5_16, vI (3 : Int32), vI (2 : Int32), vR w_POSTGRESQL] [(.int (2 : Int32)), (.ref b5_16)])) rfl rfl (hb hby d15_16) _ ?_
    refine XS.astore X26.here hx rfl (hb hby d15_17) rfl rfl (l' := #[vR a0, vR b5_16, vI (3 : Int32), vI (2 : Int32), vR w_MARIADB]) rfl ?_
    show Steps p.tables e below (T26.setTop (mkF m 19 #[vR a0, vR b5_16, vI (3 : Int32), vI (2 : Int32), vR w_MARIADB] [])) _
    refine XS.aload X26.here hx rfl (hb hby d15_19) rfl rfl ?_
    refine st28 _ ?_
    show Steps p.tables e below (T28.setTop (mkF m 24 #[vR a0, vR b5_16, vI (3 : Int32), vI (2 : Int32), vR w_MARIADB] [(.ref pv_MARIADB)])) _
    refine XS.aloadN X28.here hx rfl (hb hby d15_24) rfl rfl ?_
    refine st29.trans ?_
    show Steps p.tables e below (T29.setTop (mkF m 28 #[vR a0, vR b5_16, vI (3 : Int32), vI (2 : Int32), vR w_MARIADB] [(.int (1 : Int32))])) _
    refine XS.ifNo X29.here hx rfl (hb hby d15_28) rfl ((if0 _ _).trans (feq (by decide : ¬ ((1 : Int32) = (0 : Int32)))).1) ?_
    refine XS.aload X29.here hx rfl (hb hby d15_31) rfl rfl ?_
    show Steps p.tables e below (T29.setTop (mkF m 33 #[vR a0, vR b5_16, vI (3 : Int32), vI (2 : Int32), vR w_MARIADB] [(.ref w_MARIADB)])) _
    jvm_step X29.here [X29.here.top, hx, (hb hby d15_33), X29.method', Bd.returns, Value.isRef, FieldType.isReference]
    first | (intro acts; rw [hr _ acts rfl rfl rfl]) | rw [hr _ _ rfl rfl rfl]
    exact Steps.refl _
  · show Q15c Z w_VALUES k_VALUES w_H2 w_POSTGRESQL w_MARIADB cs_a0 w_COMPACT_STRINGS pv_H2 pv_POSTGRESQL pv_MARIADB a0 h0 n0 _ T29.heap _
    rw [e29]
    exact ⟨rfl, N29, K_17⟩
theorem d15_40 : decode prog_9_method_4_code 40 = .ok (.aconst_null, 1) := by decide +kernel
theorem d15_41 : decode prog_9_method_4_code 41 = .ok (.areturn, 1) := by decide +kernel
def Q15d (Z : State) (w_VALUES : Addr) (k_VALUES : ClassId) (w_H2 : Addr) (w_POSTGRESQL : Addr) (w_MARIADB : Addr) (cs_a0 : List Int32) (w_COMPACT_STRINGS : Int32) (pv_H2 : Addr) (pv_POSTGRESQL : Addr) (pv_MARIADB : Addr) (a0 : Addr) (h0 : Heap) (n0 : Nat) (v : Option Value) (h : Heap) (L : List Loc) : Prop := v = some .null ∧ Fr n0 L ∧ Keep h0 h []
set_option maxRecDepth 65536 in
set_option maxHeartbeats 40000000 in
theorem rm15d (l : Launch) (Z : State) (A0 : Array Value) (hw : ∀ d ∈ tables_1, d.before A0 Z = true) (ws : List Jvm.Cond) (w_VALUES : Addr) (k_VALUES : ClassId) (w_H2 : Addr) (w_POSTGRESQL : Addr) (w_MARIADB : Addr) (cs_a0 : List Int32) (w_COMPACT_STRINGS : Int32) (pv_H2 : Addr) (pv_POSTGRESQL : Addr) (pv_MARIADB : Addr) (a0 : Addr) (h0 : Heap) (n0 : Nat) (OLD : Old Z n0 h0) (f_1 : Sta Z Z.heap "com/example/seshat/seshat/jpql/Database" "$VALUES" "[Lcom/example/seshat/seshat/jpql/Database;" (.ref w_VALUES)) (f_2 : Exa Z Z.heap w_VALUES "[Lcom/example/seshat/seshat/jpql/Database;") (f_3 : Arv Z Z.heap w_VALUES k_VALUES (.object "com/example/seshat/seshat/jpql/Database") (3 : Int32) [(.ref w_H2), (.ref w_POSTGRESQL), (.ref w_MARIADB)] .null) (f_4 : own_Txt Z h0 a0 cs_a0) (f_5 : Sta Z Z.heap "java/lang/String" "COMPACT_STRINGS" "Z" (.int w_COMPACT_STRINGS)) (c_6 : ¬ (w_COMPACT_STRINGS = (0 : Int32))) (f_7 : Fld Z Z.heap w_H2 "com/example/seshat/seshat/jpql/Database" "propertyValue" "Ljava/lang/String;" (.ref pv_H2)) (f_8 : Fld Z Z.heap w_POSTGRESQL "com/example/seshat/seshat/jpql/Database" "propertyValue" "Ljava/lang/String;" (.ref pv_POSTGRESQL)) (f_9 : Fld Z Z.heap w_MARIADB "com/example/seshat/seshat/jpql/Database" "propertyValue" "Ljava/lang/String;" (.ref pv_MARIADB)) (f_10 : own_Txt Z Z.heap pv_H2 ([104, 50] : List Int32)) (f_11 : own_Txt Z Z.heap pv_POSTGRESQL ([112, 111, 115, 116, 103, 114, 101, 115, 113, 108] : List Int32)) (f_12 : own_Txt Z Z.heap pv_MARIADB ([109, 97, 114, 105, 97, 100, 98] : List Int32)) (c_13 : ¬ (cs_a0 = ([104, 50] : List Int32))) (c_14 : ¬ (cs_a0 = ([112, 111, 115, 116, 103, 114, 101, 115, 113, 108] : List Int32))) (c_15 : ¬ (cs_a0 = ([109, 97, 114, 105, 97, 100, 98] : List Int32))) :
    MetFree l (⟨"com/example/seshat/seshat/jpql/Database", "named", "(Ljava/lang/String;)Lcom/example/seshat/seshat/jpql/Database;"⟩ : MethodName) (head1 (Jvm.Cond.code (⟨"com/example/seshat/seshat/jpql/Database", "named", "(Ljava/lang/String;)Lcom/example/seshat/seshat/jpql/Database;"⟩ : MethodName) prog_9_method_4_code 5 (some (.object "com/example/seshat/seshat/jpql/Database")) :: ws) ({ frames := 2, cells := 1, slots := 3, locals := 80 } : Room)) (fun a U => a = #[(.ref a0)] ∧ Z.Warmed39 U.vm ∧ U.heap = h0) (fun _ _ _ _ _ => True) (fun _ U o U' => ∃ v L, o = .returned v ∧ Q15d Z w_VALUES k_VALUES w_H2 w_POSTGRESQL w_MARIADB cs_a0 w_COMPACT_STRINGS pv_H2 pv_POSTGRESQL pv_MARIADB a0 h0 n0 v U'.heap L ∧ FrameEnd U o U' L ({ frames := 2, cells := 1, slots := 3, locals := 80 } : Room).cells ({ frames := 2, cells := 1, slots := 3, locals := 80 } : Room).slots) := by
  refine MetFree.of_bodySF (plainFor_of_name pn_com_example_seshat_seshat_jpql_Database) hisR ?_
  intro p e s m args below meth c s₁ Bd hml0 hP hK
  obtain ⟨rfl, hZ, hh⟩ := hP
  have hx := Bd.exec
  have hby := Bd.bytes
  have hml : c.maxLocals = 5 := hml0
  have hown : s.vm.findClass "com/example/seshat/seshat/jpql/Database" = some m.cls := findClass_of_methodNamed Bd.named
  have hnm := (name_of_methodNamed Bd.named Bd.method).1
  have X0 : Stand p l e ({ frames := 2, cells := 1, slots := 3, locals := 80 } : Room) s m #[(.ref a0)] below meth c s₁ [] 0 0 := Stand.of_body Bd
  have e0 : s₁.heap = h0 := by rw [← hh, Bd.state]; rfl
  have N0 := Fr.nil n0
  have pre0 : ∀ t, Steps p.tables e below (s₁.setTop (mkF m 0 #[vR a0, .unset, .unset, .unset, .unset] [])) t → Steps p.tables e below (s₁.setTop (entryFrame m #[(.ref a0)] 5)) t := fun t k => castTop (ef_15 m a0) k
  obtain ⟨_, _, ⟨T16, L16, k16, n16⟩, -, X16, ⟨Lc16, hQ16, l16, y16, z16⟩, st16⟩ := Jvm.LawKit.callS X0 hx (y := (⟨"com/example/seshat/seshat/jpql/Database", "values", "()[Lcom/example/seshat/seshat/jpql/Database;"⟩ : MethodName)) hown (mvT hZ (hw _ (List.mem_of_getElem? (i := 72) rfl))) (mvT hZ (hw _ (List.mem_of_getElem? (i := 73) rfl))) (mvT hZ (hw _ (List.mem_of_getElem? (i := 70) rfl))) (mvT hZ (hw _ (List.mem_of_getElem? (i := 74) rfl))) (by decide) (backOf (W := 0) (rm16 l Z A0 hw [] w_VALUES k_VALUES w_H2 w_POSTGRESQL w_MARIADB h0 n0 OLD f_1 f_2 f_3) hZ (hw _ (List.mem_of_getElem? (i := 74) rfl)) (hw _ (List.mem_of_getElem? (i := 70) rfl)) (by decide) (by decide)) (g := (mkF m 0 #[vR a0, .unset, .unset, .unset, .unset] [])) rfl (by rw [hml]; rfl) (argsL := []) (rest := []) (lenOf pd_8 rfl) rfl (by show 2 * 0 + _ ≤ _; exact Nat.le_of_eq rfl) (hb hby d15_0) (fun _ _ => ⟨rfl, e0, (by decide : 0 + 1 ≤ _), (by decide : 0 + 3 ≤ _)⟩)
  dsimp only [Pt.U, Pt.locs, Pt.cells, Pt.slots] at X16 l16 y16 z16 st16 hQ16
  subst l16 y16 z16
  obtain ⟨b5_16, rfl, N16q, K16, g16_0, g16_1, g16_2⟩ := hQ16
  have N16 := Fr.app N0 N16q
  have K_17 : Keep h0 T16.heap [] := Keep.trans (Keep.refl h0 []) K16 all0
  obtain ⟨cl18, Ar18, -, s18, n18, -, -⟩ := id (g16_2)
  obtain ⟨cl19, Ar19, q19, s19, n19, hh19, gg19⟩ := id (g16_2)
  have hin19 : ¬ ((0 : Int32) < 0 ∨ cl19.slots.size ≤ ((0 : Int32)).toNatClampNeg) := inb_of s19 ⟨by decide, by decide⟩
  have hat19 : cl19.slots[((0 : Int32)).toNatClampNeg]? = some (.ref w_H2) := hh19.at hin19 rfl
  have O_20 := Old.keep OLD K16 all0
  obtain ⟨T21, X21, e21, st21⟩ := getF X16 hx hZ hown (host := "") (Or.inl (hw _ (List.mem_of_getElem? (i := 89) rfl))) Via.refl rfl (f_7.ext O_20.2) (g := (mkF m 21 #[vR a0, vR b5_16, vI (3 : Int32), vI (0 : Int32), vR w_H2] [(.ref w_H2)])) rfl rfl (hb hby d15_21)
  have f_22 := f_4.keep0 K16
  obtain ⟨cq23, kq23, q23a, q23b, q23c⟩ := isOf hZ e21 (own_Txt.exa (f_10.ext O_20.2))
  obtain ⟨_, _, ⟨T23, L23, k23, n23⟩, -, X23, ⟨Lc23, hQ23, l23, y23, z23⟩, st23⟩ := X21.virtualBack hx (y := (⟨"java/lang/String", "equals", "(Ljava/lang/Object;)Z"⟩ : MethodName)) (z := (⟨"java/lang/String", "equals", "(Ljava/lang/Object;)Z"⟩ : MethodName)) hown (mvT hZ (hw _ (List.mem_of_getElem? (i := 91) rfl))) (mvT hZ (hw _ (List.mem_of_getElem? (i := 92) rfl))) (notFace_of_selects (args := #[]) (mvT hZ (hw _ (List.mem_of_getElem? (i := 94) rfl)))) (mvT hZ (hw _ (List.mem_of_getElem? (i := 94) rfl))) (mvT hZ (hw _ (List.mem_of_getElem? (i := 93) rfl))) (by decide) (own_eqB (W := 0) (r := (0 : Int32)) hZ hw O_20 f_5 c_6 (f_10.ext O_20.2) f_22 (Or.inr ⟨rfl, fun q => c_13 q.symm⟩) (by decide) (by decide)) q23a q23c (g := (mkF m 25 #[vR a0, vR b5_16, vI (3 : Int32), vI (0 : Int32), vR w_H2] [(.ref a0), (.ref pv_H2)])) rfl (by rw [hml]; rfl) (Steps.refl _) (argsL := [(.ref a0)]) (rest := []) (lenOf pd_9 rfl) rfl (by show 2 * 0 + _ ≤ _; exact Nat.le_of_eq rfl) (hb hby d15_25) (fun _ _ => ⟨rfl, e21, (by decide : 1 + 0 ≤ _), (by decide : 3 + 0 ≤ _)⟩)
  dsimp only [Pt.U, Pt.locs, Pt.cells, Pt.slots] at X23 l23 y23 z23 st23 hQ23
  subst l23 y23 z23
  obtain ⟨rfl, N23q, e23⟩ := hQ23
  have N23 := Fr.app N16 N23q
  obtain ⟨cl24, Ar24, q24, s24, n24, hh24, gg24⟩ := id (g16_2)
  have hin24 : ¬ ((1 : Int32) < 0 ∨ cl24.slots.size ≤ ((1 : Int32)).toNatClampNeg) := inb_of s24 ⟨by decide, by decide⟩
  have hat24 : cl24.slots[((1 : Int32)).toNatClampNeg]? = some (.ref w_POSTGRESQL) := hh24.at hin24 rfl
  obtain ⟨T25, X25, e25, st25⟩ := getF X23 hx hZ hown (host := "") (Or.inl (hw _ (List.mem_of_getElem? (i := 89) rfl))) Via.refl e23 (f_8.ext O_20.2) (g := (mkF m 21 #[vR a0, vR b5_16, vI (3 : Int32), vI (1 : Int32), vR w_POSTGRESQL] [(.ref w_POSTGRESQL)])) rfl rfl (hb hby d15_21)
  obtain ⟨cq26, kq26, q26a, q26b, q26c⟩ := isOf hZ e25 (own_Txt.exa (f_11.ext O_20.2))
  obtain ⟨_, _, ⟨T26, L26, k26, n26⟩, -, X26, ⟨Lc26, hQ26, l26, y26, z26⟩, st26⟩ := X25.virtualBack hx (y := (⟨"java/lang/String", "equals", "(Ljava/lang/Object;)Z"⟩ : MethodName)) (z := (⟨"java/lang/String", "equals", "(Ljava/lang/Object;)Z"⟩ : MethodName)) hown (mvT hZ (hw _ (List.mem_of_getElem? (i := 91) rfl))) (mvT hZ (hw _ (List.mem_of_getElem? (i := 92) rfl))) (notFace_of_selects (args := #[]) (mvT hZ (hw _ (List.mem_of_getElem? (i := 94) rfl)))) (mvT hZ (hw _ (List.mem_of_getElem? (i := 94) rfl))) (mvT hZ (hw _ (List.mem_of_getElem? (i := 93) rfl))) (by decide) (own_eqB (W := 0) (r := (0 : Int32)) hZ hw O_20 f_5 c_6 (f_11.ext O_20.2) f_22 (Or.inr ⟨rfl, fun q => c_14 q.symm⟩) (by decide) (by decide)) q26a q26c (g := (mkF m 25 #[vR a0, vR b5_16, vI (3 : Int32), vI (1 : Int32), vR w_POSTGRESQL] [(.ref a0), (.ref pv_POSTGRESQL)])) rfl (by rw [hml]; rfl) (Steps.refl _) (argsL := [(.ref a0)]) (rest := []) (lenOf pd_9 rfl) rfl (by show 2 * 0 + _ ≤ _; exact Nat.le_of_eq rfl) (hb hby d15_25) (fun _ _ => ⟨rfl, e25, (by decide : 1 + 0 ≤ _), (by decide : 3 + 0 ≤ _)⟩)
  dsimp only [Pt.U, Pt.locs, Pt.cells, Pt.slots] at X26 l26 y26 z26 st26 hQ26
  subst l26 y26 z26
  obtain ⟨rfl, N26q, e26⟩ := hQ26
  have N26 := Fr.app N23 N26q
  obtain ⟨cl27, Ar27, q27, s27, n27, hh27, gg27⟩ := id (g16_2)
  have hin27 : ¬ ((2 : Int32) < 0 ∨ cl27.slots.size ≤ ((2 : Int32)).toNatClampNeg) := inb_of s27 ⟨by decide, by decide⟩
  have hat27 : cl27.slots[((2 : Int32)).toNatClampNeg]? = some (.ref w_MARIADB) := hh27.at hin27 rfl
  obtain ⟨T28, X28, e28, st28⟩ := getF X26 hx hZ hown (host := "") (Or.inl (hw _ (List.mem_of_getElem? (i := 89) rfl))) Via.refl e26 (f_9.ext O_20.2) (g := (mkF m 21 #[vR a0, vR b5_16, vI (3 : Int32), vI (2 : Int32), vR w_MARIADB] [(.ref w_MARIADB)])) rfl rfl (hb hby d15_21)
  obtain ⟨cq29, kq29, q29a, q29b, q29c⟩ := isOf hZ e28 (own_Txt.exa (f_12.ext O_20.2))
  obtain ⟨_, _, ⟨T29, L29, k29, n29⟩, -, X29, ⟨Lc29, hQ29, l29, y29, z29⟩, st29⟩ := X28.virtualBack hx (y := (⟨"java/lang/String", "equals", "(Ljava/lang/Object;)Z"⟩ : MethodName)) (z := (⟨"java/lang/String", "equals", "(Ljava/lang/Object;)Z"⟩ : MethodName)) hown (mvT hZ (hw _ (List.mem_of_getElem? (i := 91) rfl))) (mvT hZ (hw _ (List.mem_of_getElem? (i := 92) rfl))) (notFace_of_selects (args := #[]) (mvT hZ (hw _ (List.mem_of_getElem? (i := 94) rfl)))) (mvT hZ (hw _ (List.mem_of_getElem? (i := 94) rfl))) (mvT hZ (hw _ (List.mem_of_getElem? (i := 93) rfl))) (by decide) (own_eqB (W := 0) (r := (0 : Int32)) hZ hw O_20 f_5 c_6 (f_12.ext O_20.2) f_22 (Or.inr ⟨rfl, fun q => c_15 q.symm⟩) (by decide) (by decide)) q29a q29c (g := (mkF m 25 #[vR a0, vR b5_16, vI (3 : Int32), vI (2 : Int32), vR w_MARIADB] [(.ref a0), (.ref pv_MARIADB)])) rfl (by rw [hml]; rfl) (Steps.refl _) (argsL := [(.ref a0)]) (rest := []) (lenOf pd_9 rfl) rfl (by show 2 * 0 + _ ≤ _; exact Nat.le_of_eq rfl) (hb hby d15_25) (fun _ _ => ⟨rfl, e28, (by decide : 1 + 0 ≤ _), (by decide : 3 + 0 ≤ _)⟩)
  dsimp only [Pt.U, Pt.locs, Pt.cells, Pt.slots] at X29 l29 y29 z29 st29 hQ29
  subst l29 y29 z29
  obtain ⟨rfl, N29q, e29⟩ := hQ29
  have N29 := Fr.app N26 N29q
  obtain ⟨fs, hr, hrun, hended, hW, hsame⟩ := X29.leave (v := some .null) (fun h => by rw [Bd.returns] at h; cases h)
  refine ⟨_, _, pre0 _ ?_, hrun, hended, _, _, rfl, ?_, ⟨_, rfl⟩, hW, hsame.mono (by decide) (by decide)⟩
  · show Steps p.tables e below (s₁.setTop (mkF m 0 #[vR a0, .unset, .unset, .unset, .unset] [])) _
    refine st16 _ ?_
    refine XS.astoreN X16.here hx rfl (hb hby d15_3) rfl rfl (l' := #[vR a0, vR b5_16, .unset, .unset, .unset]) rfl ?_
    show Steps p.tables e below (T16.setTop (mkF m 4 #[vR a0, vR b5_16, .unset, .unset, .unset] [])) _
    refine XS.aloadN X16.here hx rfl (hb hby d15_4) rfl rfl ?_
    refine X16.arraylength hx Ar18.1 (State.isArrayOf_alike hZ.alike Ar18.2.1) (g := (mkF m 5 #[vR a0, vR b5_16, .unset, .unset, .unset] [(.ref b5_16)])) rfl rfl (hb hby d15_5) _ ?_
    rw [len_of s18 n18]
    show Steps p.tables e below (T16.setTop (mkF m 6 #[vR a0, vR b5_16, .unset, .unset, .unset] [(.int (3 : Int32))])) _
    refine XS.istoreN X16.here hx rfl (hb hby d15_6) rfl (l' := #[vR a0, vR b5_16, vI (3 : Int32), .unset, .unset]) rfl ?_
    refine XS.iconst X16.here hx rfl (hb hby d15_7) ?_
    show Steps p.tables e below (T16.setTop (mkF m 8 #[vR a0, vR b5_16, vI (3 : Int32), .unset, .unset] [(.int (0 : Int32))])) _
    refine XS.istoreN X16.here hx rfl (hb hby d15_8) rfl (l' := #[vR a0, vR b5_16, vI (3 : Int32), vI (0 : Int32), .unset]) rfl ?_
    refine XS.iloadN X16.here hx rfl (hb hby d15_9) rfl ?_
    show Steps p.tables e below (T16.setTop (mkF m 10 #[vR a0, vR b5_16, vI (3 : Int32), vI (0 : Int32), .unset] [(.int (0 : Int32))])) _
    refine XS.iloadN X16.here hx rfl (hb hby d15_10) rfl ?_
    refine XS.icmpNo X16.here hx rfl (hb hby d15_11) rfl (tlt (by decide : (0 : Int32) < (3 : Int32))).2.1 ?_
    show Steps p.tables e below (T16.setTop (mkF m 14 #[vR a0, vR b5_16, vI (3 : Int32), vI (0 : Int32), .unset] [])) _
    refine XS.aloadN X16.here hx rfl (hb hby d15_14) rfl rfl ?_
    refine XS.iloadN X16.here hx rfl (hb hby d15_15) rfl ?_
    show Steps p.tables e below (T16.setTop (mkF m 16 #[vR a0, vR b5_16, vI (3 : Int32), vI (0 : Int32), .unset] [(.int (0 : Int32)), (.ref b5_16)])) _
    refine X16.aaload hx (j := (0 : Int32)) (v := (.ref w_H2)) Ar19.1 (State.isArrayOf_alike hZ.alike Ar19.2.1) rfl Ar19.2.2 hin19 hat19 (g := (mkF m 16 #[vR a0, vR b5_16, vI (3 : Int32), vI (0 : Int32), .unset] [(.int (0 : Int32)), (.ref b5_16)])) rfl rfl (hb hby d15_16) _ ?_
    refine XS.astore X16.here hx rfl (hb hby d15_17) rfl rfl (l' := #[vR a0, vR b5_16, vI (3 : Int32), vI (0 : Int32), vR w_H2]) rfl ?_
    show Steps p.tables e below (T16.setTop (mkF m 19 #[vR a0, vR b5_16, vI (3 : Int32), vI (0 : Int32), vR w_H2] [])) _
    refine XS.aload X16.here hx rfl (hb hby d15_19) rfl rfl ?_
    refine st21 _ ?_
    show Steps p.tables e below (T21.setTop (mkF m 24 #[vR a0, vR b5_16, vI (3 : Int32), vI (0 : Int32), vR w_H2] [(.ref pv_H2)])) _
    refine XS.aloadN X21.here hx rfl (hb hby d15_24) rfl rfl ?_
    refine st23.trans ?_
    show Steps p.tables e below (T23.setTop (mkF m 28 #[vR a0, vR b5_16, vI (3 : Int32), vI (0 : Int32), vR w_H2] [(.int (0 : Int32))])) _
    refine XS.ifYes X23.here hx rfl (pc0 := 28) (pc' := 34) rfl (hb hby d15_28) rfl ((if0 _ _).trans (teq (by decide : (0 : Int32) = (0 : Int32))).1) (by decide) (by decide) ?_
    refine XS.iinc X23.here hx rfl (hb hby d15_34) rfl (l' := #[vR a0, vR b5_16, vI (3 : Int32), vI (1 : Int32), vR w_H2]) rfl ?_
    show Steps p.tables e below (T23.setTop (mkF m 37 #[vR a0, vR b5_16, vI (3 : Int32), vI (1 : Int32), vR w_H2] [])) _
    refine XS.goto X23.here hx rfl (pc0 := 37) (pc' := 9) rfl (hb hby d15_37) (by decide) (by decide) ?_
    refine XS.iloadN X23.here hx rfl (hb hby d15_9) rfl ?_
    show Steps p.tables e below (T23.setTop (mkF m 10 #[vR a0, vR b5_16, vI (3 : Int32), vI (1 : Int32), vR w_H2] [(.int (1 : Int32))])) _
    refine XS.iloadN X23.here hx rfl (hb hby d15_10) rfl ?_
    refine XS.icmpNo X23.here hx rfl (hb hby d15_11) rfl (tlt (by decide : (1 : Int32) < (3 : Int32))).2.1 ?_
    show Steps p.tables e below (T23.setTop (mkF m 14 #[vR a0, vR b5_16, vI (3 : Int32), vI (1 : Int32), vR w_H2] [])) _
    refine XS.aloadN X23.here hx rfl (hb hby d15_14) rfl rfl ?_
    refine XS.iloadN X23.here hx rfl (hb hby d15_15) rfl ?_
    show Steps p.tables e below (T23.setTop (mkF m 16 #[vR a0, vR b5_16, vI (3 : Int32), vI (1 : Int32), vR w_H2] [(.int (1 : Int32)), (.ref b5_16)])) _
    refine X23.aaload hx (j := (1 : Int32)) (v := (.ref w_POSTGRESQL)) (by rw [e23]; exact Ar24.1) (State.isArrayOf_alike hZ.alike Ar24.2.1) rfl Ar24.2.2 hin24 hat24 (g := (mkF m 16 #[vR a0, vR b5_16, vI (3 : Int32), vI (1 : Int32), vR w_H2] [(.int (1 : Int32)), (.ref b5_16)])) rfl rfl (hb hby d15_16) _ ?_
    refine XS.astore X23.here hx rfl (hb hby d15_17) rfl rfl (l' := #[vR a0, vR b5_16, vI (3 : Int32), vI (1 : Int32), vR w_POSTGRESQL]) rfl ?_
    show Steps p.tables e below (T23.setTop (mkF m 19 #[vR a0, vR b5_16, vI (3 : Int32), vI (1 : Int32), vR w_POSTGRESQL] [])) _
    refine XS.aload X23.here hx rfl (hb hby d15_19) rfl rfl ?_
    refine st25 _ ?_
    show Steps p.tables e below (T25.setTop (mkF m 24 #[vR a0, vR b5_16, vI (3 : Int32), vI (1 : Int32), vR w_POSTGRESQL] [(.ref pv_POSTGRESQL)])) _
    refine XS.aloadN X25.here hx rfl (hb hby d15_24) rfl rfl ?_
    refine st26.trans ?_
    show Steps p.tables e below (T26.setTop (mkF m 28 #[vR a0, vR b5_16, vI (3 : Int32), vI (1 : Int32), vR w_POSTGRESQL] [(.int (0 : Int32))])) _
    refine XS.ifYes X26.here hx rfl (pc0 := 28) (pc' := 34) rfl (hb hby d15_28) rfl ((if0 _ _).trans (teq (by decide : (0 : Int32) = (0 : Int32))).1) (by decide) (by decide) ?_
    refine XS.iinc X26.here hx rfl (hb hby d15_34) rfl (l' := #[vR a0, vR b5_16, vI (3 : Int32), vI (2 : Int32), vR w_POSTGRESQL]) rfl ?_
    show Steps p.tables e below (T26.setTop (mkF m 37 #[vR a0, vR b5_16, vI (3 : Int32), vI (2 : Int32), vR w_POSTGRESQL] [])) _
    refine XS.goto X26.here hx rfl (pc0 := 37) (pc' := 9) rfl (hb hby d15_37) (by decide) (by decide) ?_
    refine XS.iloadN X26.here hx rfl (hb hby d15_9) rfl ?_
    show Steps p.tables e below (T26.setTop (mkF m 10 #[vR a0, vR b5_16, vI (3 : Int32), vI (2 : Int32), vR w_POSTGRESQL] [(.int (2 : Int32))])) _
    refine XS.iloadN X26.here hx rfl (hb hby d15_10) rfl ?_
    refine XS.icmpNo X26.here hx rfl (hb hby d15_11) rfl (tlt (by decide : (2 : Int32) < (3 : Int32))).2.1 ?_
    show Steps p.tables e below (T26.setTop (mkF m 14 #[vR a0, vR b5_16, vI (3 : Int32), vI (2 : Int32), vR w_POSTGRESQL] [])) _
    refine XS.aloadN X26.here hx rfl (hb hby d15_14) rfl rfl ?_
    refine XS.iloadN X26.here hx rfl (hb hby d15_15) rfl ?_
    show Steps p.tables e below (T26.setTop (mkF m 16 #[vR a0, vR b5_16, vI (3 : Int32), vI (2 : Int32), vR w_POSTGRESQL] [(.int (2 : Int32)), (.ref b5_16)])) _
    refine X26.aaload hx (j := (2 : Int32)) (v := (.ref w_MARIADB)) (by rw [e26]; exact Ar27.1) (State.isArrayOf_alike hZ.alike Ar27.2.1) rfl Ar27.2.2 hin27 hat27 (g := (mkF m 16 #[vR a0, vR b5_16, vI (3 : Int32), vI (2 : Int32), vR w_POSTGRESQL] [(.int (2 : Int32)), (.ref b5_16)])) rfl rfl (hb hby d15_16) _ ?_
    refine XS.astore X26.here hx rfl (hb hby d15_17) rfl rfl (l' := #[vR a0, vR b5_16, vI (3 : Int32), vI (2 : Int32), vR w_MARIADB]) rfl ?_
    show Steps p.tables e below (T26.setTop (mkF m 19 #[vR a0, vR b5_16, vI (3 : Int32), vI (2 : Int32), vR w_MARIADB] [])) _
    refine XS.aload X26.here hx rfl (hb hby d15_19) rfl rfl ?_
    refine st28 _ ?_
    show Steps p.tables e below (T28.setTop (mkF m 24 #[vR a0, vR b5_16, vI (3 : Int32), vI (2 : Int32), vR w_MARIADB] [(.ref pv_MARIADB)])) _
    refine XS.aloadN X28.here hx rfl (hb hby d15_24) rfl rfl ?_
    refine st29.trans ?_
    show Steps p.tables e below (T29.setTop (mkF m 28 #[vR a0, vR b5_16, vI (3 : Int32), vI (2 : Int32), vR w_MARIADB] [(.int (0 : Int32))])) _
    refine XS.ifYes X29.here hx rfl (pc0 := 28) (pc' := 34) rfl (hb hby d15_28) rfl ((if0 _ _).trans (teq (by decide : (0 : Int32) = (0 : Int32))).1) (by decide) (by decide) ?_
    refine XS.iinc X29.here hx rfl (hb hby d15_34) rfl (l' := #[vR a0, vR b5_16, vI (3 : Int32), vI (3 : Int32), vR w_MARIADB]) rfl ?_
    show Steps p.tables e below (T29.setTop (mkF m 37 #[vR a0, vR b5_16, vI (3 : Int32), vI (3 : Int32), vR w_MARIADB] [])) _
    refine XS.goto X29.here hx rfl (pc0 := 37) (pc' := 9) rfl (hb hby d15_37) (by decide) (by decide) ?_
    refine XS.iloadN X29.here hx rfl (hb hby d15_9) rfl ?_
    show Steps p.tables e below (T29.setTop (mkF m 10 #[vR a0, vR b5_16, vI (3 : Int32), vI (3 : Int32), vR w_MARIADB] [(.int (3 : Int32))])) _
    refine XS.iloadN X29.here hx rfl (hb hby d15_10) rfl ?_
    refine XS.icmpYes X29.here hx rfl (pc0 := 11) (pc' := 40) rfl (hb hby d15_11) rfl (flt (by decide : ¬ ((3 : Int32) < (3 : Int32)))).2.1 (by decide) (by decide) ?_
    show Steps p.tables e below (T29.setTop (mkF m 40 #[vR a0, vR b5_16, vI (3 : Int32), vI (3 : Int32), vR w_MARIADB] [])) _
    refine XS.aconstNull X29.here hx rfl (hb hby d15_40) ?_
    show Steps p.tables e below (T29.setTop (mkF m 41 #[vR a0, vR b5_16, vI (3 : Int32), vI (3 : Int32), vR w_MARIADB] [.null])) _
    jvm_step X29.here [X29.here.top, hx, (hb hby d15_41), X29.method', Bd.returns, Value.isRef, FieldType.isReference]
    first | (intro acts; rw [hr _ acts rfl rfl rfl]) | rw [hr _ _ rfl rfl rfl]
    exact Steps.refl _
  · show Q15d Z w_VALUES k_VALUES w_H2 w_POSTGRESQL w_MARIADB cs_a0 w_COMPACT_STRINGS pv_H2 pv_POSTGRESQL pv_MARIADB a0 h0 n0 _ T29.heap _
    rw [e29]
    exact ⟨rfl, N29, K_17⟩
def Q15 (Z : State) (w_VALUES : Addr) (k_VALUES : ClassId) (w_H2 : Addr) (w_POSTGRESQL : Addr) (w_MARIADB : Addr) (cs_a0 : List Int32) (w_COMPACT_STRINGS : Int32) (pv_H2 : Addr) (pv_POSTGRESQL : Addr) (pv_MARIADB : Addr) (a0 : Addr) (h0 : Heap) (n0 : Nat) (v : Option Value) (h : Heap) (L : List Loc) : Prop := v = some (own_db cs_a0 w_H2 w_POSTGRESQL w_MARIADB) ∧ Fr n0 L ∧ Keep h0 h []
theorem rm15 (l : Launch) (Z : State) (A0 : Array Value) (hw : ∀ d ∈ tables_1, d.before A0 Z = true) (ws : List Jvm.Cond) (w_VALUES : Addr) (k_VALUES : ClassId) (w_H2 : Addr) (w_POSTGRESQL : Addr) (w_MARIADB : Addr) (cs_a0 : List Int32) (w_COMPACT_STRINGS : Int32) (pv_H2 : Addr) (pv_POSTGRESQL : Addr) (pv_MARIADB : Addr) (a0 : Addr) (h0 : Heap) (n0 : Nat) (OLD : Old Z n0 h0) (x0 : Sta Z Z.heap "com/example/seshat/seshat/jpql/Database" "$VALUES" "[Lcom/example/seshat/seshat/jpql/Database;" (.ref w_VALUES)) (x1 : Exa Z Z.heap w_VALUES "[Lcom/example/seshat/seshat/jpql/Database;") (x2 : Arv Z Z.heap w_VALUES k_VALUES (.object "com/example/seshat/seshat/jpql/Database") (3 : Int32) [(.ref w_H2), (.ref w_POSTGRESQL), (.ref w_MARIADB)] .null) (x3 : own_Txt Z h0 a0 cs_a0) (x4 : Sta Z Z.heap "java/lang/String" "COMPACT_STRINGS" "Z" (.int w_COMPACT_STRINGS)) (x5 : ¬ (w_COMPACT_STRINGS = (0 : Int32))) (x6 : Fld Z Z.heap w_H2 "com/example/seshat/seshat/jpql/Database" "propertyValue" "Ljava/lang/String;" (.ref pv_H2)) (x7 : Fld Z Z.heap w_POSTGRESQL "com/example/seshat/seshat/jpql/Database" "propertyValue" "Ljava/lang/String;" (.ref pv_POSTGRESQL)) (x8 : Fld Z Z.heap w_MARIADB "com/example/seshat/seshat/jpql/Database" "propertyValue" "Ljava/lang/String;" (.ref pv_MARIADB)) (x9 : own_Txt Z Z.heap pv_H2 ([104, 50] : List Int32)) (x10 : own_Txt Z Z.heap pv_POSTGRESQL ([112, 111, 115, 116, 103, 114, 101, 115, 113, 108] : List Int32)) (x11 : own_Txt Z Z.heap pv_MARIADB ([109, 97, 114, 105, 97, 100, 98] : List Int32)) :
    MetFree l (⟨"com/example/seshat/seshat/jpql/Database", "named", "(Ljava/lang/String;)Lcom/example/seshat/seshat/jpql/Database;"⟩ : MethodName) (head1 (Jvm.Cond.code (⟨"com/example/seshat/seshat/jpql/Database", "named", "(Ljava/lang/String;)Lcom/example/seshat/seshat/jpql/Database;"⟩ : MethodName) prog_9_method_4_code 5 (some (.object "com/example/seshat/seshat/jpql/Database")) :: ws) ({ frames := 2, cells := 1, slots := 3, locals := 80 } : Room)) (fun a U => a = #[(.ref a0)] ∧ Z.Warmed39 U.vm ∧ U.heap = h0) (fun _ _ _ _ _ => True) (fun _ U o U' => ∃ v L, o = .returned v ∧ Q15 Z w_VALUES k_VALUES w_H2 w_POSTGRESQL w_MARIADB cs_a0 w_COMPACT_STRINGS pv_H2 pv_POSTGRESQL pv_MARIADB a0 h0 n0 v U'.heap L ∧ FrameEnd U o U' L ({ frames := 2, cells := 1, slots := 3, locals := 80 } : Room).cells ({ frames := 2, cells := 1, slots := 3, locals := 80 } : Room).slots) := by
  by_cases e0 : cs_a0 = ([104, 50] : List Int32)
  · exact own_mono (rm15a l Z A0 hw ws w_VALUES k_VALUES w_H2 w_POSTGRESQL w_MARIADB cs_a0 w_COMPACT_STRINGS pv_H2 pv_POSTGRESQL pv_MARIADB a0 h0 n0 OLD x0 x1 x2 x3 x4 x5 x6 x7 x8 x9 x10 x11 e0) (fun _ _ _ _ ⟨v, L, h1, ⟨h2, h3, h4⟩, h5⟩ => ⟨v, L, h1, ⟨h2.trans (by rw [own_db0 e0]), h3, h4⟩, h5⟩)
  · by_cases e1 : cs_a0 = ([112, 111, 115, 116, 103, 114, 101, 115, 113, 108] : List Int32)
    · exact own_mono (rm15b l Z A0 hw ws w_VALUES k_VALUES w_H2 w_POSTGRESQL w_MARIADB cs_a0 w_COMPACT_STRINGS pv_H2 pv_POSTGRESQL pv_MARIADB a0 h0 n0 OLD x0 x1 x2 x3 x4 x5 x6 x7 x8 x9 x10 x11 e0 e1) (fun _ _ _ _ ⟨v, L, h1, ⟨h2, h3, h4⟩, h5⟩ => ⟨v, L, h1, ⟨h2.trans (by rw [own_db1 e0 e1]), h3, h4⟩, h5⟩)
    · by_cases e2 : cs_a0 = ([109, 97, 114, 105, 97, 100, 98] : List Int32)
      · exact own_mono (rm15c l Z A0 hw ws w_VALUES k_VALUES w_H2 w_POSTGRESQL w_MARIADB cs_a0 w_COMPACT_STRINGS pv_H2 pv_POSTGRESQL pv_MARIADB a0 h0 n0 OLD x0 x1 x2 x3 x4 x5 x6 x7 x8 x9 x10 x11 e0 e1 e2) (fun _ _ _ _ ⟨v, L, h1, ⟨h2, h3, h4⟩, h5⟩ => ⟨v, L, h1, ⟨h2.trans (by rw [own_db2 e0 e1 e2]), h3, h4⟩, h5⟩)
      · exact own_mono (rm15d l Z A0 hw ws w_VALUES k_VALUES w_H2 w_POSTGRESQL w_MARIADB cs_a0 w_COMPACT_STRINGS pv_H2 pv_POSTGRESQL pv_MARIADB a0 h0 n0 OLD x0 x1 x2 x3 x4 x5 x6 x7 x8 x9 x10 x11 e0 e1 e2) (fun _ _ _ _ ⟨v, L, h1, ⟨h2, h3, h4⟩, h5⟩ => ⟨v, L, h1, ⟨h2.trans (by rw [own_db3 e0 e1 e2]), h3, h4⟩, h5⟩)
theorem d19_0 : decode method_3_code 0 = .ok (.aload_n 0, 1) := by decide +kernel
theorem d19_1 : decode method_3_code 1 = .ok (.ldc 17, 2) := by decide +kernel
theorem d19_3 : decode method_3_code 3 = .ok (.invokevirtual 42, 3) := by decide +kernel
theorem d19_6 : decode method_3_code 6 = .ok (.ifCond .eq 7, 3) := by decide +kernel
theorem d19_9 : decode method_3_code 9 = .ok (.getstatic 46, 3) := by decide +kernel
theorem d19_12 : decode method_3_code 12 = .ok (.areturn, 1) := by decide +kernel
theorem ef_19 (m : MethodId) (x0 : Addr) : entryFrame m #[(.ref x0)] 1 = mkF m 0 #[vR x0] [] := by first | (simp [entryFrame, mkF, argsToLocals, Value.category]; done) | rfl
def Q19a (Z : State) (cs_a0 : List Int32) (w_COMPACT_STRINGS : Int32) (w_H2 : Addr) (w_POSTGRESQL : Addr) (w_MARIADB : Addr) (a0 : Addr) (h0 : Heap) (n0 : Nat) (v : Option Value) (h : Heap) (L : List Loc) : Prop := v = some (.ref w_H2) ∧ Fr n0 L ∧ Keep h0 h []
set_option maxRecDepth 65536 in
set_option maxHeartbeats 40000000 in
theorem rm19a (l : Launch) (Z : State) (A0 : Array Value) (hw : ∀ d ∈ tables_1, d.before A0 Z = true) (ws : List Jvm.Cond) (cs_a0 : List Int32) (w_COMPACT_STRINGS : Int32) (w_H2 : Addr) (w_POSTGRESQL : Addr) (w_MARIADB : Addr) (a0 : Addr) (h0 : Heap) (n0 : Nat) (OLD : Old Z n0 h0) (f_1 : own_Txt Z h0 a0 cs_a0) (f_2 : Sta Z Z.heap "java/lang/String" "COMPACT_STRINGS" "Z" (.int w_COMPACT_STRINGS)) (c_3 : ¬ (w_COMPACT_STRINGS = (0 : Int32))) (f_4 : Sta Z Z.heap "com/example/seshat/seshat/jpql/Database" "H2" "Lcom/example/seshat/seshat/jpql/Database;" (.ref w_H2)) (f_5 : Sta Z Z.heap "com/example/seshat/seshat/jpql/Database" "POSTGRESQL" "Lcom/example/seshat/seshat/jpql/Database;" (.ref w_POSTGRESQL)) (f_6 : Sta Z Z.heap "com/example/seshat/seshat/jpql/Database" "MARIADB" "Lcom/example/seshat/seshat/jpql/Database;" (.ref w_MARIADB)) (c_7 : cs_a0 = ([104, 50] : List Int32)) :
    MetFree l (⟨"com/example/seshat/seshat/jpql/DatabaseNamedPinLaw", "expected", "(Ljava/lang/String;)Lcom/example/seshat/seshat/jpql/Database;"⟩ : MethodName) (head1 (Jvm.Cond.code (⟨"com/example/seshat/seshat/jpql/DatabaseNamedPinLaw", "expected", "(Ljava/lang/String;)Lcom/example/seshat/seshat/jpql/Database;"⟩ : MethodName) method_3_code 1 (some (.object "com/example/seshat/seshat/jpql/Database")) :: ws) ({ frames := 2, cells := 6, slots := 100, locals := 60 } : Room)) (fun a U => a = #[(.ref a0)] ∧ Z.Warmed39 U.vm ∧ U.heap = h0 ∧ CHv Z consts_1 U.vm h0) (fun _ _ _ _ _ => True) (fun _ U o U' => ∃ v L, o = .returned v ∧ Q19a Z cs_a0 w_COMPACT_STRINGS w_H2 w_POSTGRESQL w_MARIADB a0 h0 n0 v U'.heap L ∧ CHr Z consts_1 U.vm U.heap U'.vm U'.heap ∧ ReturnedEndW U o U' L ({ frames := 2, cells := 6, slots := 100, locals := 60 } : Room).cells ({ frames := 2, cells := 6, slots := 100, locals := 60 } : Room).slots) := by
  refine MetFree.of_bodySF (plainFor_of_name pn_com_example_seshat_seshat_jpql_DatabaseNamedPinLaw) hisR ?_
  intro p e s m args below meth c s₁ Bd hml0 hP hK
  obtain ⟨rfl, hZ, hh, hCH⟩ := hP
  have hx := Bd.exec
  have hby := Bd.bytes
  have hml : c.maxLocals = 1 := hml0
  have hown : s.vm.findClass "com/example/seshat/seshat/jpql/DatabaseNamedPinLaw" = some m.cls := findClass_of_methodNamed Bd.named
  have hnm := (name_of_methodNamed Bd.named Bd.method).1
  have X0 : Stand p l e ({ frames := 2, cells := 6, slots := 100, locals := 60 } : Room) (s.setVm s.vm) m #[(.ref a0)] below meth c s₁ [] 0 0 := Stand.of_body Bd
  have e0 : s₁.heap = h0 := by rw [← hh, Bd.state]; rfl
  have hS0 : s.Since s.vm h0.size := (State.WarmedH.refl s).since _
  have hk0 : h0.size ≤ h0.size := Nat.le_refl _
  have hZ : Z.Warmed39 (s.setVm s.vm).vm := hZ
  have hown : (s.setVm s.vm).vm.findClass "com/example/seshat/seshat/jpql/DatabaseNamedPinLaw" = some m.cls := hown
  have CH0 : CHr Z consts_1 (s.setVm s.vm).vm h0 (s.setVm s.vm).vm h0 := CHr.refl hCH
  have N0 := Fr.nil n0
  have pre0 : ∀ t, Steps p.tables e below (s₁.setTop (mkF m 0 #[vR a0] [])) t → Steps p.tables e below (s₁.setTop (entryFrame m #[(.ref a0)] 1)) t := fun t k => castTop (ef_19 m a0) k
  obtain ⟨b8, T8, h8, k8, d8, kd8, X8, e8, E8, hS8, hk8, hZ8, hown8, A8, Fc8, Fv8, V8, la8, lb8, C8, -, sn8, st8⟩ := ldcCH (s := s) (EL := consts_1) X0 hx hZ hown (hw _ (List.mem_of_getElem? (i := 1) rfl)) (own_strs hw) e0 hS0 hk0 (own_EW hw) (by decide) CH0.1 (vs := [(.int (104 : Int32)), (.int (50 : Int32))]) (z := (2 : Int32)) ⟨by decide, by decide⟩ (by decide) (by decide) (g := (mkF m 1 #[vR a0] [(.ref a0)])) rfl (hb hby d19_1) (n := 8) (by decide) (by decide) (by decide) (by decide)
  have K_9 : Keep h0 h8 [] := (Keep.refl h0 []).ext E8
  have CH_10 := CH0.trans C8
  have f_11 := f_1.ext E8
  have O_12 := Old.ext OLD E8
  obtain ⟨cq13, kq13, q13a, q13b, q13c⟩ := isOf hZ8 e8 (own_Txt.exa f_11)
  obtain ⟨_, _, ⟨T13, L13, k13, n13⟩, -, X13, ⟨Lc13, hQ13, l13, y13, z13⟩, st13⟩ := X8.virtualBack hx (y := (⟨"java/lang/String", "equals", "(Ljava/lang/Object;)Z"⟩ : MethodName)) (z := (⟨"java/lang/String", "equals", "(Ljava/lang/Object;)Z"⟩ : MethodName)) hown8 (mvT hZ8 (hw _ (List.mem_of_getElem? (i := 103) rfl))) (mvT hZ8 (hw _ (List.mem_of_getElem? (i := 92) rfl))) (notFace_of_selects (args := #[]) (mvT hZ8 (hw _ (List.mem_of_getElem? (i := 94) rfl)))) (mvT hZ8 (hw _ (List.mem_of_getElem? (i := 94) rfl))) (mvT hZ8 (hw _ (List.mem_of_getElem? (i := 93) rfl))) (by decide) (own_eqB (W := 0) (r := (1 : Int32)) hZ8 hw O_12 f_2 c_3 f_11 (own_txtK (cs := ([104, 50] : List Int32)) A8 Fv8 Fc8 V8 rfl rfl (by decide) (by decide)) (Or.inl ⟨rfl, c_7⟩) (by decide) (by decide)) q13a q13c (g := (mkF m 3 #[vR a0] [(.ref b8), (.ref a0)])) rfl (by rw [hml]; rfl) (Steps.refl _) (argsL := [(.ref b8)]) (rest := []) (lenOf pd_9 rfl) rfl (by show 2 * 0 + _ ≤ _; exact Nat.le_of_eq rfl) (hb hby d19_3) (fun _ _ => ⟨rfl, e8, (by decide : 2 + 0 ≤ _), (by decide : 12 + 0 ≤ _)⟩)
  dsimp only [Pt.U, Pt.locs, Pt.cells, Pt.slots] at X13 l13 y13 z13 st13 hQ13
  subst l13 y13 z13
  obtain ⟨rfl, N13q, e13⟩ := hQ13
  have N13 := Fr.app N0 N13q
  obtain ⟨T14, X14, e14, st14⟩ := getS2 X13 hx hZ8 hown8 (host := "") (Or.inl (hw _ (List.mem_of_getElem? (i := 126) rfl))) Via.refl e13 (f_4.ext O_12.2) (g := (mkF m 9 #[vR a0] [])) rfl (hb hby d19_9)
  obtain ⟨fs, hr, hrun, hended, hRW⟩ := X14.leaveW (s := s) hS8 (by rw [e14]; exact hk8) (v := some (.ref w_H2)) (fun h => by rw [Bd.returns] at h; cases h)
  refine ⟨_, _, pre0 _ ?_, hrun, hended, _, _, rfl, ?_, (by have q := CH_10.trans (CHv.at X14 hZ8 (own_EW hw) CH_10.1); rw [hh]; show CHr Z consts_1 s.vm h0 T14.vm T14.heap; rw [e14]; exact q), hRW.1, hRW.2.1, hRW.2.2.1, hRW.2.2.2.mono (by decide) (by decide)⟩
  · show Steps p.tables e below (s₁.setTop (mkF m 0 #[vR a0] [])) _
    refine XS.aloadN X0.here hx rfl (hb hby d19_0) rfl rfl ?_
    refine st8 _ ?_
    show Steps p.tables e below (T8.setTop (mkF m 3 #[vR a0] [(.ref b8), (.ref a0)])) _
    refine st13.trans ?_
    refine XS.ifNo X13.here hx rfl (hb hby d19_6) rfl ((if0 _ _).trans (feq (by decide : ¬ ((1 : Int32) = (0 : Int32)))).1) ?_
    show Steps p.tables e below (T13.setTop (mkF m 9 #[vR a0] [])) _
    refine st14 _ ?_
    show Steps p.tables e below (T14.setTop (mkF m 12 #[vR a0] [(.ref w_H2)])) _
    jvm_step X14.here [X14.here.top, hx, (hb hby d19_12), X14.method', Bd.returns, Value.isRef, FieldType.isReference]
    first | (intro acts; rw [hr _ acts rfl rfl rfl]) | rw [hr _ _ rfl rfl rfl]
    exact Steps.refl _
  · show Q19a Z cs_a0 w_COMPACT_STRINGS w_H2 w_POSTGRESQL w_MARIADB a0 h0 n0 _ T14.heap _
    rw [e14]
    exact ⟨rfl, N13, K_9⟩
theorem d19_13 : decode method_3_code 13 = .ok (.aload_n 0, 1) := by decide +kernel
theorem d19_14 : decode method_3_code 14 = .ok (.ldc 19, 2) := by decide +kernel
theorem d19_16 : decode method_3_code 16 = .ok (.invokevirtual 42, 3) := by decide +kernel
theorem d19_19 : decode method_3_code 19 = .ok (.ifCond .eq 7, 3) := by decide +kernel
theorem d19_22 : decode method_3_code 22 = .ok (.getstatic 50, 3) := by decide +kernel
theorem d19_25 : decode method_3_code 25 = .ok (.areturn, 1) := by decide +kernel
def Q19b (Z : State) (cs_a0 : List Int32) (w_COMPACT_STRINGS : Int32) (w_H2 : Addr) (w_POSTGRESQL : Addr) (w_MARIADB : Addr) (a0 : Addr) (h0 : Heap) (n0 : Nat) (v : Option Value) (h : Heap) (L : List Loc) : Prop := v = some (.ref w_POSTGRESQL) ∧ Fr n0 L ∧ Keep h0 h []
set_option maxRecDepth 65536 in
set_option maxHeartbeats 40000000 in
theorem rm19b (l : Launch) (Z : State) (A0 : Array Value) (hw : ∀ d ∈ tables_1, d.before A0 Z = true) (ws : List Jvm.Cond) (cs_a0 : List Int32) (w_COMPACT_STRINGS : Int32) (w_H2 : Addr) (w_POSTGRESQL : Addr) (w_MARIADB : Addr) (a0 : Addr) (h0 : Heap) (n0 : Nat) (OLD : Old Z n0 h0) (f_1 : own_Txt Z h0 a0 cs_a0) (f_2 : Sta Z Z.heap "java/lang/String" "COMPACT_STRINGS" "Z" (.int w_COMPACT_STRINGS)) (c_3 : ¬ (w_COMPACT_STRINGS = (0 : Int32))) (f_4 : Sta Z Z.heap "com/example/seshat/seshat/jpql/Database" "H2" "Lcom/example/seshat/seshat/jpql/Database;" (.ref w_H2)) (f_5 : Sta Z Z.heap "com/example/seshat/seshat/jpql/Database" "POSTGRESQL" "Lcom/example/seshat/seshat/jpql/Database;" (.ref w_POSTGRESQL)) (f_6 : Sta Z Z.heap "com/example/seshat/seshat/jpql/Database" "MARIADB" "Lcom/example/seshat/seshat/jpql/Database;" (.ref w_MARIADB)) (c_7 : ¬ (cs_a0 = ([104, 50] : List Int32))) (c_8 : cs_a0 = ([112, 111, 115, 116, 103, 114, 101, 115, 113, 108] : List Int32)) :
    MetFree l (⟨"com/example/seshat/seshat/jpql/DatabaseNamedPinLaw", "expected", "(Ljava/lang/String;)Lcom/example/seshat/seshat/jpql/Database;"⟩ : MethodName) (head1 (Jvm.Cond.code (⟨"com/example/seshat/seshat/jpql/DatabaseNamedPinLaw", "expected", "(Ljava/lang/String;)Lcom/example/seshat/seshat/jpql/Database;"⟩ : MethodName) method_3_code 1 (some (.object "com/example/seshat/seshat/jpql/Database")) :: ws) ({ frames := 2, cells := 6, slots := 100, locals := 60 } : Room)) (fun a U => a = #[(.ref a0)] ∧ Z.Warmed39 U.vm ∧ U.heap = h0 ∧ CHv Z consts_1 U.vm h0) (fun _ _ _ _ _ => True) (fun _ U o U' => ∃ v L, o = .returned v ∧ Q19b Z cs_a0 w_COMPACT_STRINGS w_H2 w_POSTGRESQL w_MARIADB a0 h0 n0 v U'.heap L ∧ CHr Z consts_1 U.vm U.heap U'.vm U'.heap ∧ ReturnedEndW U o U' L ({ frames := 2, cells := 6, slots := 100, locals := 60 } : Room).cells ({ frames := 2, cells := 6, slots := 100, locals := 60 } : Room).slots) := by
  refine MetFree.of_bodySF (plainFor_of_name pn_com_example_seshat_seshat_jpql_DatabaseNamedPinLaw) hisR ?_
  intro p e s m args below meth c s₁ Bd hml0 hP hK
  obtain ⟨rfl, hZ, hh, hCH⟩ := hP
  have hx := Bd.exec
  have hby := Bd.bytes
  have hml : c.maxLocals = 1 := hml0
  have hown : s.vm.findClass "com/example/seshat/seshat/jpql/DatabaseNamedPinLaw" = some m.cls := findClass_of_methodNamed Bd.named
  have hnm := (name_of_methodNamed Bd.named Bd.method).1
  have X0 : Stand p l e ({ frames := 2, cells := 6, slots := 100, locals := 60 } : Room) (s.setVm s.vm) m #[(.ref a0)] below meth c s₁ [] 0 0 := Stand.of_body Bd
  have e0 : s₁.heap = h0 := by rw [← hh, Bd.state]; rfl
  have hS0 : s.Since s.vm h0.size := (State.WarmedH.refl s).since _
  have hk0 : h0.size ≤ h0.size := Nat.le_refl _
  have hZ : Z.Warmed39 (s.setVm s.vm).vm := hZ
  have hown : (s.setVm s.vm).vm.findClass "com/example/seshat/seshat/jpql/DatabaseNamedPinLaw" = some m.cls := hown
  have CH0 : CHr Z consts_1 (s.setVm s.vm).vm h0 (s.setVm s.vm).vm h0 := CHr.refl hCH
  have N0 := Fr.nil n0
  have pre0 : ∀ t, Steps p.tables e below (s₁.setTop (mkF m 0 #[vR a0] [])) t → Steps p.tables e below (s₁.setTop (entryFrame m #[(.ref a0)] 1)) t := fun t k => castTop (ef_19 m a0) k
  obtain ⟨b9, T9, h9, k9, d9, kd9, X9, e9, E9, hS9, hk9, hZ9, hown9, A9, Fc9, Fv9, V9, la9, lb9, C9, -, sn9, st9⟩ := ldcCH (s := s) (EL := consts_1) X0 hx hZ hown (hw _ (List.mem_of_getElem? (i := 1) rfl)) (own_strs hw) e0 hS0 hk0 (own_EW hw) (by decide) CH0.1 (vs := [(.int (104 : Int32)), (.int (50 : Int32))]) (z := (2 : Int32)) ⟨by decide, by decide⟩ (by decide) (by decide) (g := (mkF m 1 #[vR a0] [(.ref a0)])) rfl (hb hby d19_1) (n := 8) (by decide) (by decide) (by decide) (by decide)
  have K_10 : Keep h0 h9 [] := (Keep.refl h0 []).ext E9
  have CH_11 := CH0.trans C9
  have f_12 := f_1.ext E9
  have O_13 := Old.ext OLD E9
  obtain ⟨cq14, kq14, q14a, q14b, q14c⟩ := isOf hZ9 e9 (own_Txt.exa f_12)
  obtain ⟨_, _, ⟨T14, L14, k14, n14⟩, -, X14, ⟨Lc14, hQ14, l14, y14, z14⟩, st14⟩ := X9.virtualBack hx (y := (⟨"java/lang/String", "equals", "(Ljava/lang/Object;)Z"⟩ : MethodName)) (z := (⟨"java/lang/String", "equals", "(Ljava/lang/Object;)Z"⟩ : MethodName)) hown9 (mvT hZ9 (hw _ (List.mem_of_getElem? (i := 103) rfl))) (mvT hZ9 (hw _ (List.mem_of_getElem? (i := 92) rfl))) (notFace_of_selects (args := #[]) (mvT hZ9 (hw _ (List.mem_of_getElem? (i := 94) rfl)))) (mvT hZ9 (hw _ (List.mem_of_getElem? (i := 94) rfl))) (mvT hZ9 (hw _ (List.mem_of_getElem? (i := 93) rfl))) (by decide) (own_eqB (W := 0) (r := (0 : Int32)) hZ9 hw O_13 f_2 c_3 f_12 (own_txtK (cs := ([104, 50] : List Int32)) A9 Fv9 Fc9 V9 rfl rfl (by decide) (by decide)) (Or.inr ⟨rfl, c_7⟩) (by decide) (by decide)) q14a q14c (g := (mkF m 3 #[vR a0] [(.ref b9), (.ref a0)])) rfl (by rw [hml]; rfl) (Steps.refl _) (argsL := [(.ref b9)]) (rest := []) (lenOf pd_9 rfl) rfl (by show 2 * 0 + _ ≤ _; exact Nat.le_of_eq rfl) (hb hby d19_3) (fun _ _ => ⟨rfl, e9, (by decide : 2 + 0 ≤ _), (by decide : 12 + 0 ≤ _)⟩)
  dsimp only [Pt.U, Pt.locs, Pt.cells, Pt.slots] at X14 l14 y14 z14 st14 hQ14
  subst l14 y14 z14
  obtain ⟨rfl, N14q, e14⟩ := hQ14
  have N14 := Fr.app N0 N14q
  obtain ⟨b15, T15, h15, k15, d15, kd15, X15, e15, E15, hS15, hk15, hZ15, hown15, A15, Fc15, Fv15, V15, la15, lb15, C15, -, sn15, st15⟩ := ldcCH (s := s) (EL := consts_1) X14 hx hZ9 hown9 (hw _ (List.mem_of_getElem? (i := 104) rfl)) (own_strs hw) e14 hS9 hk9 (own_EW hw) (by decide) CH_11.1 (vs := [(.int (112 : Int32)), (.int (111 : Int32)), (.int (115 : Int32)), (.int (116 : Int32)), (.int (103 : Int32)), (.int (114 : Int32)), (.int (101 : Int32)), (.int (115 : Int32)), (.int (113 : Int32)), (.int (108 : Int32))]) (z := (10 : Int32)) ⟨by decide, by decide⟩ (by decide) (by decide) (g := (mkF m 14 #[vR a0] [(.ref a0)])) rfl (hb hby d19_14) (n := 40) (by decide) (by decide) (by decide) (by decide)
  have K_16 : Keep h0 h15 [] := K_10.ext E15
  have CH_17 := CH_11.trans C15
  have f_18 := f_12.ext E15
  have O_19 := Old.ext O_13 E15
  obtain ⟨cq20, kq20, q20a, q20b, q20c⟩ := isOf hZ15 e15 (own_Txt.exa f_18)
  obtain ⟨_, _, ⟨T20, L20, k20, n20⟩, -, X20, ⟨Lc20, hQ20, l20, y20, z20⟩, st20⟩ := X15.virtualBack hx (y := (⟨"java/lang/String", "equals", "(Ljava/lang/Object;)Z"⟩ : MethodName)) (z := (⟨"java/lang/String", "equals", "(Ljava/lang/Object;)Z"⟩ : MethodName)) hown15 (mvT hZ15 (hw _ (List.mem_of_getElem? (i := 103) rfl))) (mvT hZ15 (hw _ (List.mem_of_getElem? (i := 92) rfl))) (notFace_of_selects (args := #[]) (mvT hZ15 (hw _ (List.mem_of_getElem? (i := 94) rfl)))) (mvT hZ15 (hw _ (List.mem_of_getElem? (i := 94) rfl))) (mvT hZ15 (hw _ (List.mem_of_getElem? (i := 93) rfl))) (by decide) (own_eqB (W := 0) (r := (1 : Int32)) hZ15 hw O_19 f_2 c_3 f_18 (own_txtK (cs := ([112, 111, 115, 116, 103, 114, 101, 115, 113, 108] : List Int32)) A15 Fv15 Fc15 V15 rfl rfl (by decide) (by decide)) (Or.inl ⟨rfl, c_8⟩) (by decide) (by decide)) q20a q20c (g := (mkF m 16 #[vR a0] [(.ref b15), (.ref a0)])) rfl (by rw [hml]; rfl) (Steps.refl _) (argsL := [(.ref b15)]) (rest := []) (lenOf pd_9 rfl) rfl (by show 2 * 0 + _ ≤ _; exact Nat.le_of_eq rfl) (hb hby d19_16) (fun _ _ => ⟨rfl, e15, (by decide : 4 + 0 ≤ _), (by decide : 56 + 0 ≤ _)⟩)
  dsimp only [Pt.U, Pt.locs, Pt.cells, Pt.slots] at X20 l20 y20 z20 st20 hQ20
  subst l20 y20 z20
  obtain ⟨rfl, N20q, e20⟩ := hQ20
  have N20 := Fr.app N14 N20q
  obtain ⟨T21, X21, e21, st21⟩ := getS2 X20 hx hZ15 hown15 (host := "") (Or.inl (hw _ (List.mem_of_getElem? (i := 125) rfl))) Via.refl e20 (f_5.ext O_19.2) (g := (mkF m 22 #[vR a0] [])) rfl (hb hby d19_22)
  obtain ⟨fs, hr, hrun, hended, hRW⟩ := X21.leaveW (s := s) hS15 (by rw [e21]; exact hk15) (v := some (.ref w_POSTGRESQL)) (fun h => by rw [Bd.returns] at h; cases h)
  refine ⟨_, _, pre0 _ ?_, hrun, hended, _, _, rfl, ?_, (by have q := CH_17.trans (CHv.at X21 hZ15 (own_EW hw) CH_17.1); rw [hh]; show CHr Z consts_1 s.vm h0 T21.vm T21.heap; rw [e21]; exact q), hRW.1, hRW.2.1, hRW.2.2.1, hRW.2.2.2.mono (by decide) (by decide)⟩
  · show Steps p.tables e below (s₁.setTop (mkF m 0 #[vR a0] [])) _
    refine XS.aloadN X0.here hx rfl (hb hby d19_0) rfl rfl ?_
    refine st9 _ ?_
    show Steps p.tables e below (T9.setTop (mkF m 3 #[vR a0] [(.ref b9), (.ref a0)])) _
    refine st14.trans ?_
    refine XS.ifYes X14.here hx rfl (pc0 := 6) (pc' := 13) rfl (hb hby d19_6) rfl ((if0 _ _).trans (teq (by decide : (0 : Int32) = (0 : Int32))).1) (by decide) (by decide) ?_
    show Steps p.tables e below (T14.setTop (mkF m 13 #[vR a0] [])) _
    refine XS.aloadN X14.here hx rfl (hb hby d19_13) rfl rfl ?_
    refine st15 _ ?_
    show Steps p.tables e below (T15.setTop (mkF m 16 #[vR a0] [(.ref b15), (.ref a0)])) _
    refine st20.trans ?_
    refine XS.ifNo X20.here hx rfl (hb hby d19_19) rfl ((if0 _ _).trans (feq (by decide : ¬ ((1 : Int32) = (0 : Int32)))).1) ?_
    show Steps p.tables e below (T20.setTop (mkF m 22 #[vR a0] [])) _
    refine st21 _ ?_
    show Steps p.tables e below (T21.setTop (mkF m 25 #[vR a0] [(.ref w_POSTGRESQL)])) _
    jvm_step X21.here [X21.here.top, hx, (hb hby d19_25), X21.method', Bd.returns, Value.isRef, FieldType.isReference]
    first | (intro acts; rw [hr _ acts rfl rfl rfl]) | rw [hr _ _ rfl rfl rfl]
    exact Steps.refl _
  · show Q19b Z cs_a0 w_COMPACT_STRINGS w_H2 w_POSTGRESQL w_MARIADB a0 h0 n0 _ T21.heap _
    rw [e21]
    exact ⟨rfl, N20, K_16⟩
theorem d19_26 : decode method_3_code 26 = .ok (.aload_n 0, 1) := by decide +kernel
theorem d19_27 : decode method_3_code 27 = .ok (.ldc 21, 2) := by decide +kernel
theorem d19_29 : decode method_3_code 29 = .ok (.invokevirtual 42, 3) := by decide +kernel
theorem d19_32 : decode method_3_code 32 = .ok (.ifCond .eq 7, 3) := by decide +kernel
theorem d19_35 : decode method_3_code 35 = .ok (.getstatic 53, 3) := by decide +kernel
theorem d19_38 : decode method_3_code 38 = .ok (.areturn, 1) := by decide +kernel
def Q19c (Z : State) (cs_a0 : List Int32) (w_COMPACT_STRINGS : Int32) (w_H2 : Addr) (w_POSTGRESQL : Addr) (w_MARIADB : Addr) (a0 : Addr) (h0 : Heap) (n0 : Nat) (v : Option Value) (h : Heap) (L : List Loc) : Prop := v = some (.ref w_MARIADB) ∧ Fr n0 L ∧ Keep h0 h []
set_option maxRecDepth 65536 in
set_option maxHeartbeats 40000000 in
theorem rm19c (l : Launch) (Z : State) (A0 : Array Value) (hw : ∀ d ∈ tables_1, d.before A0 Z = true) (ws : List Jvm.Cond) (cs_a0 : List Int32) (w_COMPACT_STRINGS : Int32) (w_H2 : Addr) (w_POSTGRESQL : Addr) (w_MARIADB : Addr) (a0 : Addr) (h0 : Heap) (n0 : Nat) (OLD : Old Z n0 h0) (f_1 : own_Txt Z h0 a0 cs_a0) (f_2 : Sta Z Z.heap "java/lang/String" "COMPACT_STRINGS" "Z" (.int w_COMPACT_STRINGS)) (c_3 : ¬ (w_COMPACT_STRINGS = (0 : Int32))) (f_4 : Sta Z Z.heap "com/example/seshat/seshat/jpql/Database" "H2" "Lcom/example/seshat/seshat/jpql/Database;" (.ref w_H2)) (f_5 : Sta Z Z.heap "com/example/seshat/seshat/jpql/Database" "POSTGRESQL" "Lcom/example/seshat/seshat/jpql/Database;" (.ref w_POSTGRESQL)) (f_6 : Sta Z Z.heap "com/example/seshat/seshat/jpql/Database" "MARIADB" "Lcom/example/seshat/seshat/jpql/Database;" (.ref w_MARIADB)) (c_7 : ¬ (cs_a0 = ([104, 50] : List Int32))) (c_8 : ¬ (cs_a0 = ([112, 111, 115, 116, 103, 114, 101, 115, 113, 108] : List Int32))) (c_9 : cs_a0 = ([109, 97, 114, 105, 97, 100, 98] : List Int32)) :
    MetFree l (⟨"com/example/seshat/seshat/jpql/DatabaseNamedPinLaw", "expected", "(Ljava/lang/String;)Lcom/example/seshat/seshat/jpql/Database;"⟩ : MethodName) (head1 (Jvm.Cond.code (⟨"com/example/seshat/seshat/jpql/DatabaseNamedPinLaw", "expected", "(Ljava/lang/String;)Lcom/example/seshat/seshat/jpql/Database;"⟩ : MethodName) method_3_code 1 (some (.object "com/example/seshat/seshat/jpql/Database")) :: ws) ({ frames := 2, cells := 6, slots := 100, locals := 60 } : Room)) (fun a U => a = #[(.ref a0)] ∧ Z.Warmed39 U.vm ∧ U.heap = h0 ∧ CHv Z consts_1 U.vm h0) (fun _ _ _ _ _ => True) (fun _ U o U' => ∃ v L, o = .returned v ∧ Q19c Z cs_a0 w_COMPACT_STRINGS w_H2 w_POSTGRESQL w_MARIADB a0 h0 n0 v U'.heap L ∧ CHr Z consts_1 U.vm U.heap U'.vm U'.heap ∧ ReturnedEndW U o U' L ({ frames := 2, cells := 6, slots := 100, locals := 60 } : Room).cells ({ frames := 2, cells := 6, slots := 100, locals := 60 } : Room).slots) := by
  refine MetFree.of_bodySF (plainFor_of_name pn_com_example_seshat_seshat_jpql_DatabaseNamedPinLaw) hisR ?_
  intro p e s m args below meth c s₁ Bd hml0 hP hK
  obtain ⟨rfl, hZ, hh, hCH⟩ := hP
  have hx := Bd.exec
  have hby := Bd.bytes
  have hml : c.maxLocals = 1 := hml0
  have hown : s.vm.findClass "com/example/seshat/seshat/jpql/DatabaseNamedPinLaw" = some m.cls := findClass_of_methodNamed Bd.named
  have hnm := (name_of_methodNamed Bd.named Bd.method).1
  have X0 : Stand p l e ({ frames := 2, cells := 6, slots := 100, locals := 60 } : Room) (s.setVm s.vm) m #[(.ref a0)] below meth c s₁ [] 0 0 := Stand.of_body Bd
  have e0 : s₁.heap = h0 := by rw [← hh, Bd.state]; rfl
  have hS0 : s.Since s.vm h0.size := (State.WarmedH.refl s).since _
  have hk0 : h0.size ≤ h0.size := Nat.le_refl _
  have hZ : Z.Warmed39 (s.setVm s.vm).vm := hZ
  have hown : (s.setVm s.vm).vm.findClass "com/example/seshat/seshat/jpql/DatabaseNamedPinLaw" = some m.cls := hown
  have CH0 : CHr Z consts_1 (s.setVm s.vm).vm h0 (s.setVm s.vm).vm h0 := CHr.refl hCH
  have N0 := Fr.nil n0
  have pre0 : ∀ t, Steps p.tables e below (s₁.setTop (mkF m 0 #[vR a0] [])) t → Steps p.tables e below (s₁.setTop (entryFrame m #[(.ref a0)] 1)) t := fun t k => castTop (ef_19 m a0) k
  obtain ⟨b10, T10, h10, k10, d10, kd10, X10, e10, E10, hS10, hk10, hZ10, hown10, A10, Fc10, Fv10, V10, la10, lb10, C10, -, sn10, st10⟩ := ldcCH (s := s) (EL := consts_1) X0 hx hZ hown (hw _ (List.mem_of_getElem? (i := 1) rfl)) (own_strs hw) e0 hS0 hk0 (own_EW hw) (by decide) CH0.1 (vs := [(.int (104 : Int32)), (.int (50 : Int32))]) (z := (2 : Int32)) ⟨by decide, by decide⟩ (by decide) (by decide) (g := (mkF m 1 #[vR a0] [(.ref a0)])) rfl (hb hby d19_1) (n := 8) (by decide) (by decide) (by decide) (by decide)
  have K_11 : Keep h0 h10 [] := (Keep.refl h0 []).ext E10
  have CH_12 := CH0.trans C10
  have f_13 := f_1.ext E10
  have O_14 := Old.ext OLD E10
  obtain ⟨cq15, kq15, q15a, q15b, q15c⟩ := isOf hZ10 e10 (own_Txt.exa f_13)
  obtain ⟨_, _, ⟨T15, L15, k15, n15⟩, -, X15, ⟨Lc15, hQ15, l15, y15, z15⟩, st15⟩ := X10.virtualBack hx (y := (⟨"java/lang/String", "equals", "(Ljava/lang/Object;)Z"⟩ : MethodName)) (z := (⟨"java/lang/String", "equals", "(Ljava/lang/Object;)Z"⟩ : MethodName)) hown10 (mvT hZ10 (hw _ (List.mem_of_getElem? (i := 103) rfl))) (mvT hZ10 (hw _ (List.mem_of_getElem? (i := 92) rfl))) (notFace_of_selects (args := #[]) (mvT hZ10 (hw _ (List.mem_of_getElem? (i := 94) rfl)))) (mvT hZ10 (hw _ (List.mem_of_getElem? (i := 94) rfl))) (mvT hZ10 (hw _ (List.mem_of_getElem? (i := 93) rfl))) (by decide) (own_eqB (W := 0) (r := (0 : Int32)) hZ10 hw O_14 f_2 c_3 f_13 (own_txtK (cs := ([104, 50] : List Int32)) A10 Fv10 Fc10 V10 rfl rfl (by decide) (by decide)) (Or.inr ⟨rfl, c_7⟩) (by decide) (by decide)) q15a q15c (g := (mkF m 3 #[vR a0] [(.ref b10), (.ref a0)])) rfl (by rw [hml]; rfl) (Steps.refl _) (argsL := [(.ref b10)]) (rest := []) (lenOf pd_9 rfl) rfl (by show 2 * 0 + _ ≤ _; exact Nat.le_of_eq rfl) (hb hby d19_3) (fun _ _ => ⟨rfl, e10, (by decide : 2 + 0 ≤ _), (by decide : 12 + 0 ≤ _)⟩)
  dsimp only [Pt.U, Pt.locs, Pt.cells, Pt.slots] at X15 l15 y15 z15 st15 hQ15
  subst l15 y15 z15
  obtain ⟨rfl, N15q, e15⟩ := hQ15
  have N15 := Fr.app N0 N15q
  obtain ⟨b16, T16, h16, k16, d16, kd16, X16, e16, E16, hS16, hk16, hZ16, hown16, A16, Fc16, Fv16, V16, la16, lb16, C16, -, sn16, st16⟩ := ldcCH (s := s) (EL := consts_1) X15 hx hZ10 hown10 (hw _ (List.mem_of_getElem? (i := 104) rfl)) (own_strs hw) e15 hS10 hk10 (own_EW hw) (by decide) CH_12.1 (vs := [(.int (112 : Int32)), (.int (111 : Int32)), (.int (115 : Int32)), (.int (116 : Int32)), (.int (103 : Int32)), (.int (114 : Int32)), (.int (101 : Int32)), (.int (115 : Int32)), (.int (113 : Int32)), (.int (108 : Int32))]) (z := (10 : Int32)) ⟨by decide, by decide⟩ (by decide) (by decide) (g := (mkF m 14 #[vR a0] [(.ref a0)])) rfl (hb hby d19_14) (n := 40) (by decide) (by decide) (by decide) (by decide)
  have K_17 : Keep h0 h16 [] := K_11.ext E16
  have CH_18 := CH_12.trans C16
  have f_19 := f_13.ext E16
  have O_20 := Old.ext O_14 E16
  obtain ⟨cq21, kq21, q21a, q21b, q21c⟩ := isOf hZ16 e16 (own_Txt.exa f_19)
  obtain ⟨_, _, ⟨T21, L21, k21, n21⟩, -, X21, ⟨Lc21, hQ21, l21, y21, z21⟩, st21⟩ := X16.virtualBack hx (y := (⟨"java/lang/String", "equals", "(Ljava/lang/Object;)Z"⟩ : MethodName)) (z := (⟨"java/lang/String", "equals", "(Ljava/lang/Object;)Z"⟩ : MethodName)) hown16 (mvT hZ16 (hw _ (List.mem_of_getElem? (i := 103) rfl))) (mvT hZ16 (hw _ (List.mem_of_getElem? (i := 92) rfl))) (notFace_of_selects (args := #[]) (mvT hZ16 (hw _ (List.mem_of_getElem? (i := 94) rfl)))) (mvT hZ16 (hw _ (List.mem_of_getElem? (i := 94) rfl))) (mvT hZ16 (hw _ (List.mem_of_getElem? (i := 93) rfl))) (by decide) (own_eqB (W := 0) (r := (0 : Int32)) hZ16 hw O_20 f_2 c_3 f_19 (own_txtK (cs := ([112, 111, 115, 116, 103, 114, 101, 115, 113, 108] : List Int32)) A16 Fv16 Fc16 V16 rfl rfl (by decide) (by decide)) (Or.inr ⟨rfl, c_8⟩) (by decide) (by decide)) q21a q21c (g := (mkF m 16 #[vR a0] [(.ref b16), (.ref a0)])) rfl (by rw [hml]; rfl) (Steps.refl _) (argsL := [(.ref b16)]) (rest := []) (lenOf pd_9 rfl) rfl (by show 2 * 0 + _ ≤ _; exact Nat.le_of_eq rfl) (hb hby d19_16) (fun _ _ => ⟨rfl, e16, (by decide : 4 + 0 ≤ _), (by decide : 56 + 0 ≤ _)⟩)
  dsimp only [Pt.U, Pt.locs, Pt.cells, Pt.slots] at X21 l21 y21 z21 st21 hQ21
  subst l21 y21 z21
  obtain ⟨rfl, N21q, e21⟩ := hQ21
  have N21 := Fr.app N15 N21q
  obtain ⟨b22, T22, h22, k22, d22, kd22, X22, e22, E22, hS22, hk22, hZ22, hown22, A22, Fc22, Fv22, V22, la22, lb22, C22, -, sn22, st22⟩ := ldcCH (s := s) (EL := consts_1) X21 hx hZ16 hown16 (hw _ (List.mem_of_getElem? (i := 105) rfl)) (own_strs hw) e21 hS16 hk16 (own_EW hw) (by decide) CH_18.1 (vs := [(.int (109 : Int32)), (.int (97 : Int32)), (.int (114 : Int32)), (.int (105 : Int32)), (.int (97 : Int32)), (.int (100 : Int32)), (.int (98 : Int32))]) (z := (7 : Int32)) ⟨by decide, by decide⟩ (by decide) (by decide) (g := (mkF m 27 #[vR a0] [(.ref a0)])) rfl (hb hby d19_27) (n := 28) (by decide) (by decide) (by decide) (by decide)
  have K_23 : Keep h0 h22 [] := K_17.ext E22
  have CH_24 := CH_18.trans C22
  have f_25 := f_19.ext E22
  have O_26 := Old.ext O_20 E22
  obtain ⟨cq27, kq27, q27a, q27b, q27c⟩ := isOf hZ22 e22 (own_Txt.exa f_25)
  obtain ⟨_, _, ⟨T27, L27, k27, n27⟩, -, X27, ⟨Lc27, hQ27, l27, y27, z27⟩, st27⟩ := X22.virtualBack hx (y := (⟨"java/lang/String", "equals", "(Ljava/lang/Object;)Z"⟩ : MethodName)) (z := (⟨"java/lang/String", "equals", "(Ljava/lang/Object;)Z"⟩ : MethodName)) hown22 (mvT hZ22 (hw _ (List.mem_of_getElem? (i := 103) rfl))) (mvT hZ22 (hw _ (List.mem_of_getElem? (i := 92) rfl))) (notFace_of_selects (args := #[]) (mvT hZ22 (hw _ (List.mem_of_getElem? (i := 94) rfl)))) (mvT hZ22 (hw _ (List.mem_of_getElem? (i := 94) rfl))) (mvT hZ22 (hw _ (List.mem_of_getElem? (i := 93) rfl))) (by decide) (own_eqB (W := 0) (r := (1 : Int32)) hZ22 hw O_26 f_2 c_3 f_25 (own_txtK (cs := ([109, 97, 114, 105, 97, 100, 98] : List Int32)) A22 Fv22 Fc22 V22 rfl rfl (by decide) (by decide)) (Or.inl ⟨rfl, c_9⟩) (by decide) (by decide)) q27a q27c (g := (mkF m 29 #[vR a0] [(.ref b22), (.ref a0)])) rfl (by rw [hml]; rfl) (Steps.refl _) (argsL := [(.ref b22)]) (rest := []) (lenOf pd_9 rfl) rfl (by show 2 * 0 + _ ≤ _; exact Nat.le_of_eq rfl) (hb hby d19_29) (fun _ _ => ⟨rfl, e22, (by decide : 6 + 0 ≤ _), (by decide : 88 + 0 ≤ _)⟩)
  dsimp only [Pt.U, Pt.locs, Pt.cells, Pt.slots] at X27 l27 y27 z27 st27 hQ27
  subst l27 y27 z27
  obtain ⟨rfl, N27q, e27⟩ := hQ27
  have N27 := Fr.app N21 N27q
  obtain ⟨T28, X28, e28, st28⟩ := getS2 X27 hx hZ22 hown22 (host := "") (Or.inl (hw _ (List.mem_of_getElem? (i := 127) rfl))) Via.refl e27 (f_6.ext O_26.2) (g := (mkF m 35 #[vR a0] [])) rfl (hb hby d19_35)
  obtain ⟨fs, hr, hrun, hended, hRW⟩ := X28.leaveW (s := s) hS22 (by rw [e28]; exact hk22) (v := some (.ref w_MARIADB)) (fun h => by rw [Bd.returns] at h; cases h)
  refine ⟨_, _, pre0 _ ?_, hrun, hended, _, _, rfl, ?_, (by have q := CH_24.trans (CHv.at X28 hZ22 (own_EW hw) CH_24.1); rw [hh]; show CHr Z consts_1 s.vm h0 T28.vm T28.heap; rw [e28]; exact q), hRW.1, hRW.2.1, hRW.2.2.1, hRW.2.2.2.mono (by decide) (by decide)⟩
  · show Steps p.tables e below (s₁.setTop (mkF m 0 #[vR a0] [])) _
    refine XS.aloadN X0.here hx rfl (hb hby d19_0) rfl rfl ?_
    refine st10 _ ?_
    show Steps p.tables e below (T10.setTop (mkF m 3 #[vR a0] [(.ref b10), (.ref a0)])) _
    refine st15.trans ?_
    refine XS.ifYes X15.here hx rfl (pc0 := 6) (pc' := 13) rfl (hb hby d19_6) rfl ((if0 _ _).trans (teq (by decide : (0 : Int32) = (0 : Int32))).1) (by decide) (by decide) ?_
    show Steps p.tables e below (T15.setTop (mkF m 13 #[vR a0] [])) _
    refine XS.aloadN X15.here hx rfl (hb hby d19_13) rfl rfl ?_
    refine st16 _ ?_
    show Steps p.tables e below (T16.setTop (mkF m 16 #[vR a0] [(.ref b16), (.ref a0)])) _
    refine st21.trans ?_
    refine XS.ifYes X21.here hx rfl (pc0 := 19) (pc' := 26) rfl (hb hby d19_19) rfl ((if0 _ _).trans (teq (by decide : (0 : Int32) = (0 : Int32))).1) (by decide) (by decide) ?_
    show Steps p.tables e below (T21.setTop (mkF m 26 #[vR a0] [])) _
    refine XS.aloadN X21.here hx rfl (hb hby d19_26) rfl rfl ?_
    refine st22 _ ?_
    show Steps p.tables e below (T22.setTop (mkF m 29 #[vR a0] [(.ref b22), (.ref a0)])) _
    refine st27.trans ?_
    refine XS.ifNo X27.here hx rfl (hb hby d19_32) rfl ((if0 _ _).trans (feq (by decide : ¬ ((1 : Int32) = (0 : Int32)))).1) ?_
    show Steps p.tables e below (T27.setTop (mkF m 35 #[vR a0] [])) _
    refine st28 _ ?_
    show Steps p.tables e below (T28.setTop (mkF m 38 #[vR a0] [(.ref w_MARIADB)])) _
    jvm_step X28.here [X28.here.top, hx, (hb hby d19_38), X28.method', Bd.returns, Value.isRef, FieldType.isReference]
    first | (intro acts; rw [hr _ acts rfl rfl rfl]) | rw [hr _ _ rfl rfl rfl]
    exact Steps.refl _
  · show Q19c Z cs_a0 w_COMPACT_STRINGS w_H2 w_POSTGRESQL w_MARIADB a0 h0 n0 _ T28.heap _
    rw [e28]
    exact ⟨rfl, N27, K_23⟩
theorem d19_39 : decode method_3_code 39 = .ok (.aconst_null, 1) := by decide +kernel
theorem d19_40 : decode method_3_code 40 = .ok (.areturn, 1) := by decide +kernel
def Q19d (Z : State) (cs_a0 : List Int32) (w_COMPACT_STRINGS : Int32) (w_H2 : Addr) (w_POSTGRESQL : Addr) (w_MARIADB : Addr) (a0 : Addr) (h0 : Heap) (n0 : Nat) (v : Option Value) (h : Heap) (L : List Loc) : Prop := v = some .null ∧ Fr n0 L ∧ Keep h0 h []
set_option maxRecDepth 65536 in
set_option maxHeartbeats 40000000 in
theorem rm19d (l : Launch) (Z : State) (A0 : Array Value) (hw : ∀ d ∈ tables_1, d.before A0 Z = true) (ws : List Jvm.Cond) (cs_a0 : List Int32) (w_COMPACT_STRINGS : Int32) (w_H2 : Addr) (w_POSTGRESQL : Addr) (w_MARIADB : Addr) (a0 : Addr) (h0 : Heap) (n0 : Nat) (OLD : Old Z n0 h0) (f_1 : own_Txt Z h0 a0 cs_a0) (f_2 : Sta Z Z.heap "java/lang/String" "COMPACT_STRINGS" "Z" (.int w_COMPACT_STRINGS)) (c_3 : ¬ (w_COMPACT_STRINGS = (0 : Int32))) (f_4 : Sta Z Z.heap "com/example/seshat/seshat/jpql/Database" "H2" "Lcom/example/seshat/seshat/jpql/Database;" (.ref w_H2)) (f_5 : Sta Z Z.heap "com/example/seshat/seshat/jpql/Database" "POSTGRESQL" "Lcom/example/seshat/seshat/jpql/Database;" (.ref w_POSTGRESQL)) (f_6 : Sta Z Z.heap "com/example/seshat/seshat/jpql/Database" "MARIADB" "Lcom/example/seshat/seshat/jpql/Database;" (.ref w_MARIADB)) (c_7 : ¬ (cs_a0 = ([104, 50] : List Int32))) (c_8 : ¬ (cs_a0 = ([112, 111, 115, 116, 103, 114, 101, 115, 113, 108] : List Int32))) (c_9 : ¬ (cs_a0 = ([109, 97, 114, 105, 97, 100, 98] : List Int32))) :
    MetFree l (⟨"com/example/seshat/seshat/jpql/DatabaseNamedPinLaw", "expected", "(Ljava/lang/String;)Lcom/example/seshat/seshat/jpql/Database;"⟩ : MethodName) (head1 (Jvm.Cond.code (⟨"com/example/seshat/seshat/jpql/DatabaseNamedPinLaw", "expected", "(Ljava/lang/String;)Lcom/example/seshat/seshat/jpql/Database;"⟩ : MethodName) method_3_code 1 (some (.object "com/example/seshat/seshat/jpql/Database")) :: ws) ({ frames := 2, cells := 6, slots := 100, locals := 60 } : Room)) (fun a U => a = #[(.ref a0)] ∧ Z.Warmed39 U.vm ∧ U.heap = h0 ∧ CHv Z consts_1 U.vm h0) (fun _ _ _ _ _ => True) (fun _ U o U' => ∃ v L, o = .returned v ∧ Q19d Z cs_a0 w_COMPACT_STRINGS w_H2 w_POSTGRESQL w_MARIADB a0 h0 n0 v U'.heap L ∧ CHr Z consts_1 U.vm U.heap U'.vm U'.heap ∧ ReturnedEndW U o U' L ({ frames := 2, cells := 6, slots := 100, locals := 60 } : Room).cells ({ frames := 2, cells := 6, slots := 100, locals := 60 } : Room).slots) := by
  refine MetFree.of_bodySF (plainFor_of_name pn_com_example_seshat_seshat_jpql_DatabaseNamedPinLaw) hisR ?_
  intro p e s m args below meth c s₁ Bd hml0 hP hK
  obtain ⟨rfl, hZ, hh, hCH⟩ := hP
  have hx := Bd.exec
  have hby := Bd.bytes
  have hml : c.maxLocals = 1 := hml0
  have hown : s.vm.findClass "com/example/seshat/seshat/jpql/DatabaseNamedPinLaw" = some m.cls := findClass_of_methodNamed Bd.named
  have hnm := (name_of_methodNamed Bd.named Bd.method).1
  have X0 : Stand p l e ({ frames := 2, cells := 6, slots := 100, locals := 60 } : Room) (s.setVm s.vm) m #[(.ref a0)] below meth c s₁ [] 0 0 := Stand.of_body Bd
  have e0 : s₁.heap = h0 := by rw [← hh, Bd.state]; rfl
  have hS0 : s.Since s.vm h0.size := (State.WarmedH.refl s).since _
  have hk0 : h0.size ≤ h0.size := Nat.le_refl _
  have hZ : Z.Warmed39 (s.setVm s.vm).vm := hZ
  have hown : (s.setVm s.vm).vm.findClass "com/example/seshat/seshat/jpql/DatabaseNamedPinLaw" = some m.cls := hown
  have CH0 : CHr Z consts_1 (s.setVm s.vm).vm h0 (s.setVm s.vm).vm h0 := CHr.refl hCH
  have N0 := Fr.nil n0
  have pre0 : ∀ t, Steps p.tables e below (s₁.setTop (mkF m 0 #[vR a0] [])) t → Steps p.tables e below (s₁.setTop (entryFrame m #[(.ref a0)] 1)) t := fun t k => castTop (ef_19 m a0) k
  obtain ⟨b10, T10, h10, k10, d10, kd10, X10, e10, E10, hS10, hk10, hZ10, hown10, A10, Fc10, Fv10, V10, la10, lb10, C10, -, sn10, st10⟩ := ldcCH (s := s) (EL := consts_1) X0 hx hZ hown (hw _ (List.mem_of_getElem? (i := 1) rfl)) (own_strs hw) e0 hS0 hk0 (own_EW hw) (by decide) CH0.1 (vs := [(.int (104 : Int32)), (.int (50 : Int32))]) (z := (2 : Int32)) ⟨by decide, by decide⟩ (by decide) (by decide) (g := (mkF m 1 #[vR a0] [(.ref a0)])) rfl (hb hby d19_1) (n := 8) (by decide) (by decide) (by decide) (by decide)
  have K_11 : Keep h0 h10 [] := (Keep.refl h0 []).ext E10
  have CH_12 := CH0.trans C10
  have f_13 := f_1.ext E10
  have O_14 := Old.ext OLD E10
  obtain ⟨cq15, kq15, q15a, q15b, q15c⟩ := isOf hZ10 e10 (own_Txt.exa f_13)
  obtain ⟨_, _, ⟨T15, L15, k15, n15⟩, -, X15, ⟨Lc15, hQ15, l15, y15, z15⟩, st15⟩ := X10.virtualBack hx (y := (⟨"java/lang/String", "equals", "(Ljava/lang/Object;)Z"⟩ : MethodName)) (z := (⟨"java/lang/String", "equals", "(Ljava/lang/Object;)Z"⟩ : MethodName)) hown10 (mvT hZ10 (hw _ (List.mem_of_getElem? (i := 103) rfl))) (mvT hZ10 (hw _ (List.mem_of_getElem? (i := 92) rfl))) (notFace_of_selects (args := #[]) (mvT hZ10 (hw _ (List.mem_of_getElem? (i := 94) rfl)))) (mvT hZ10 (hw _ (List.mem_of_getElem? (i := 94) rfl))) (mvT hZ10 (hw _ (List.mem_of_getElem? (i := 93) rfl))) (by decide) (own_eqB (W := 0) (r := (0 : Int32)) hZ10 hw O_14 f_2 c_3 f_13 (own_txtK (cs := ([104, 50] : List Int32)) A10 Fv10 Fc10 V10 rfl rfl (by decide) (by decide)) (Or.inr ⟨rfl, c_7⟩) (by decide) (by decide)) q15a q15c (g := (mkF m 3 #[vR a0] [(.ref b10), (.ref a0)])) rfl (by rw [hml]; rfl) (Steps.refl _) (argsL := [(.ref b10)]) (rest := []) (lenOf pd_9 rfl) rfl (by show 2 * 0 + _ ≤ _; exact Nat.le_of_eq rfl) (hb hby d19_3) (fun _ _ => ⟨rfl, e10, (by decide : 2 + 0 ≤ _), (by decide : 12 + 0 ≤ _)⟩)
  dsimp only [Pt.U, Pt.locs, Pt.cells, Pt.slots] at X15 l15 y15 z15 st15 hQ15
  subst l15 y15 z15
  obtain ⟨rfl, N15q, e15⟩ := hQ15
  have N15 := Fr.app N0 N15q
  obtain ⟨b16, T16, h16, k16, d16, kd16, X16, e16, E16, hS16, hk16, hZ16, hown16, A16, Fc16, Fv16, V16, la16, lb16, C16, -, sn16, st16⟩ := ldcCH (s := s) (EL := consts_1) X15 hx hZ10 hown10 (hw _ (List.mem_of_getElem? (i := 104) rfl)) (own_strs hw) e15 hS10 hk10 (own_EW hw) (by decide) CH_12.1 (vs := [(.int (112 : Int32)), (.int (111 : Int32)), (.int (115 : Int32)), (.int (116 : Int32)), (.int (103 : Int32)), (.int (114 : Int32)), (.int (101 : Int32)), (.int (115 : Int32)), (.int (113 : Int32)), (.int (108 : Int32))]) (z := (10 : Int32)) ⟨by decide, by decide⟩ (by decide) (by decide) (g := (mkF m 14 #[vR a0] [(.ref a0)])) rfl (hb hby d19_14) (n := 40) (by decide) (by decide) (by decide) (by decide)
  have K_17 : Keep h0 h16 [] := K_11.ext E16
  have CH_18 := CH_12.trans C16
  have f_19 := f_13.ext E16
  have O_20 := Old.ext O_14 E16
  obtain ⟨cq21, kq21, q21a, q21b, q21c⟩ := isOf hZ16 e16 (own_Txt.exa f_19)
  obtain ⟨_, _, ⟨T21, L21, k21, n21⟩, -, X21, ⟨Lc21, hQ21, l21, y21, z21⟩, st21⟩ := X16.virtualBack hx (y := (⟨"java/lang/String", "equals", "(Ljava/lang/Object;)Z"⟩ : MethodName)) (z := (⟨"java/lang/String", "equals", "(Ljava/lang/Object;)Z"⟩ : MethodName)) hown16 (mvT hZ16 (hw _ (List.mem_of_getElem? (i := 103) rfl))) (mvT hZ16 (hw _ (List.mem_of_getElem? (i := 92) rfl))) (notFace_of_selects (args := #[]) (mvT hZ16 (hw _ (List.mem_of_getElem? (i := 94) rfl)))) (mvT hZ16 (hw _ (List.mem_of_getElem? (i := 94) rfl))) (mvT hZ16 (hw _ (List.mem_of_getElem? (i := 93) rfl))) (by decide) (own_eqB (W := 0) (r := (0 : Int32)) hZ16 hw O_20 f_2 c_3 f_19 (own_txtK (cs := ([112, 111, 115, 116, 103, 114, 101, 115, 113, 108] : List Int32)) A16 Fv16 Fc16 V16 rfl rfl (by decide) (by decide)) (Or.inr ⟨rfl, c_8⟩) (by decide) (by decide)) q21a q21c (g := (mkF m 16 #[vR a0] [(.ref b16), (.ref a0)])) rfl (by rw [hml]; rfl) (Steps.refl _) (argsL := [(.ref b16)]) (rest := []) (lenOf pd_9 rfl) rfl (by show 2 * 0 + _ ≤ _; exact Nat.le_of_eq rfl) (hb hby d19_16) (fun _ _ => ⟨rfl, e16, (by decide : 4 + 0 ≤ _), (by decide : 56 + 0 ≤ _)⟩)
  dsimp only [Pt.U, Pt.locs, Pt.cells, Pt.slots] at X21 l21 y21 z21 st21 hQ21
  subst l21 y21 z21
  obtain ⟨rfl, N21q, e21⟩ := hQ21
  have N21 := Fr.app N15 N21q
  obtain ⟨b22, T22, h22, k22, d22, kd22, X22, e22, E22, hS22, hk22, hZ22, hown22, A22, Fc22, Fv22, V22, la22, lb22, C22, -, sn22, st22⟩ := ldcCH (s := s) (EL := consts_1) X21 hx hZ16 hown16 (hw _ (List.mem_of_getElem? (i := 105) rfl)) (own_strs hw) e21 hS16 hk16 (own_EW hw) (by decide) CH_18.1 (vs := [(.int (109 : Int32)), (.int (97 : Int32)), (.int (114 : Int32)), (.int (105 : Int32)), (.int (97 : Int32)), (.int (100 : Int32)), (.int (98 : Int32))]) (z := (7 : Int32)) ⟨by decide, by decide⟩ (by decide) (by decide) (g := (mkF m 27 #[vR a0] [(.ref a0)])) rfl (hb hby d19_27) (n := 28) (by decide) (by decide) (by decide) (by decide)
  have K_23 : Keep h0 h22 [] := K_17.ext E22
  have CH_24 := CH_18.trans C22
  have f_25 := f_19.ext E22
  have O_26 := Old.ext O_20 E22
  obtain ⟨cq27, kq27, q27a, q27b, q27c⟩ := isOf hZ22 e22 (own_Txt.exa f_25)
  obtain ⟨_, _, ⟨T27, L27, k27, n27⟩, -, X27, ⟨Lc27, hQ27, l27, y27, z27⟩, st27⟩ := X22.virtualBack hx (y := (⟨"java/lang/String", "equals", "(Ljava/lang/Object;)Z"⟩ : MethodName)) (z := (⟨"java/lang/String", "equals", "(Ljava/lang/Object;)Z"⟩ : MethodName)) hown22 (mvT hZ22 (hw _ (List.mem_of_getElem? (i := 103) rfl))) (mvT hZ22 (hw _ (List.mem_of_getElem? (i := 92) rfl))) (notFace_of_selects (args := #[]) (mvT hZ22 (hw _ (List.mem_of_getElem? (i := 94) rfl)))) (mvT hZ22 (hw _ (List.mem_of_getElem? (i := 94) rfl))) (mvT hZ22 (hw _ (List.mem_of_getElem? (i := 93) rfl))) (by decide) (own_eqB (W := 0) (r := (0 : Int32)) hZ22 hw O_26 f_2 c_3 f_25 (own_txtK (cs := ([109, 97, 114, 105, 97, 100, 98] : List Int32)) A22 Fv22 Fc22 V22 rfl rfl (by decide) (by decide)) (Or.inr ⟨rfl, c_9⟩) (by decide) (by decide)) q27a q27c (g := (mkF m 29 #[vR a0] [(.ref b22), (.ref a0)])) rfl (by rw [hml]; rfl) (Steps.refl _) (argsL := [(.ref b22)]) (rest := []) (lenOf pd_9 rfl) rfl (by show 2 * 0 + _ ≤ _; exact Nat.le_of_eq rfl) (hb hby d19_29) (fun _ _ => ⟨rfl, e22, (by decide : 6 + 0 ≤ _), (by decide : 88 + 0 ≤ _)⟩)
  dsimp only [Pt.U, Pt.locs, Pt.cells, Pt.slots] at X27 l27 y27 z27 st27 hQ27
  subst l27 y27 z27
  obtain ⟨rfl, N27q, e27⟩ := hQ27
  have N27 := Fr.app N21 N27q
  obtain ⟨fs, hr, hrun, hended, hRW⟩ := X27.leaveW (s := s) hS22 (by rw [e27]; exact hk22) (v := some .null) (fun h => by rw [Bd.returns] at h; cases h)
  refine ⟨_, _, pre0 _ ?_, hrun, hended, _, _, rfl, ?_, (by have q := CH_24.trans (CHv.at X27 hZ22 (own_EW hw) CH_24.1); rw [hh]; show CHr Z consts_1 s.vm h0 T27.vm T27.heap; rw [e27]; exact q), hRW.1, hRW.2.1, hRW.2.2.1, hRW.2.2.2.mono (by decide) (by decide)⟩
  · show Steps p.tables e below (s₁.setTop (mkF m 0 #[vR a0] [])) _
    refine XS.aloadN X0.here hx rfl (hb hby d19_0) rfl rfl ?_
    refine st10 _ ?_
    show Steps p.tables e below (T10.setTop (mkF m 3 #[vR a0] [(.ref b10), (.ref a0)])) _
    refine st15.trans ?_
    refine XS.ifYes X15.here hx rfl (pc0 := 6) (pc' := 13) rfl (hb hby d19_6) rfl ((if0 _ _).trans (teq (by decide : (0 : Int32) = (0 : Int32))).1) (by decide) (by decide) ?_
    show Steps p.tables e below (T15.setTop (mkF m 13 #[vR a0] [])) _
    refine XS.aloadN X15.here hx rfl (hb hby d19_13) rfl rfl ?_
    refine st16 _ ?_
    show Steps p.tables e below (T16.setTop (mkF m 16 #[vR a0] [(.ref b16), (.ref a0)])) _
    refine st21.trans ?_
    refine XS.ifYes X21.here hx rfl (pc0 := 19) (pc' := 26) rfl (hb hby d19_19) rfl ((if0 _ _).trans (teq (by decide : (0 : Int32) = (0 : Int32))).1) (by decide) (by decide) ?_
    show Steps p.tables e below (T21.setTop (mkF m 26 #[vR a0] [])) _
    refine XS.aloadN X21.here hx rfl (hb hby d19_26) rfl rfl ?_
    refine st22 _ ?_
    show Steps p.tables e below (T22.setTop (mkF m 29 #[vR a0] [(.ref b22), (.ref a0)])) _
    refine st27.trans ?_
    refine XS.ifYes X27.here hx rfl (pc0 := 32) (pc' := 39) rfl (hb hby d19_32) rfl ((if0 _ _).trans (teq (by decide : (0 : Int32) = (0 : Int32))).1) (by decide) (by decide) ?_
    show Steps p.tables e below (T27.setTop (mkF m 39 #[vR a0] [])) _
    refine XS.aconstNull X27.here hx rfl (hb hby d19_39) ?_
    show Steps p.tables e below (T27.setTop (mkF m 40 #[vR a0] [.null])) _
    jvm_step X27.here [X27.here.top, hx, (hb hby d19_40), X27.method', Bd.returns, Value.isRef, FieldType.isReference]
    first | (intro acts; rw [hr _ acts rfl rfl rfl]) | rw [hr _ _ rfl rfl rfl]
    exact Steps.refl _
  · show Q19d Z cs_a0 w_COMPACT_STRINGS w_H2 w_POSTGRESQL w_MARIADB a0 h0 n0 _ T27.heap _
    rw [e27]
    exact ⟨rfl, N27, K_23⟩
def Q19 (Z : State) (cs_a0 : List Int32) (w_COMPACT_STRINGS : Int32) (w_H2 : Addr) (w_POSTGRESQL : Addr) (w_MARIADB : Addr) (a0 : Addr) (h0 : Heap) (n0 : Nat) (v : Option Value) (h : Heap) (L : List Loc) : Prop := v = some (own_db cs_a0 w_H2 w_POSTGRESQL w_MARIADB) ∧ Fr n0 L ∧ Keep h0 h []
theorem rm19 (l : Launch) (Z : State) (A0 : Array Value) (hw : ∀ d ∈ tables_1, d.before A0 Z = true) (ws : List Jvm.Cond) (cs_a0 : List Int32) (w_COMPACT_STRINGS : Int32) (w_H2 : Addr) (w_POSTGRESQL : Addr) (w_MARIADB : Addr) (a0 : Addr) (h0 : Heap) (n0 : Nat) (OLD : Old Z n0 h0) (x0 : own_Txt Z h0 a0 cs_a0) (x1 : Sta Z Z.heap "java/lang/String" "COMPACT_STRINGS" "Z" (.int w_COMPACT_STRINGS)) (x2 : ¬ (w_COMPACT_STRINGS = (0 : Int32))) (x3 : Sta Z Z.heap "com/example/seshat/seshat/jpql/Database" "H2" "Lcom/example/seshat/seshat/jpql/Database;" (.ref w_H2)) (x4 : Sta Z Z.heap "com/example/seshat/seshat/jpql/Database" "POSTGRESQL" "Lcom/example/seshat/seshat/jpql/Database;" (.ref w_POSTGRESQL)) (x5 : Sta Z Z.heap "com/example/seshat/seshat/jpql/Database" "MARIADB" "Lcom/example/seshat/seshat/jpql/Database;" (.ref w_MARIADB)) :
    MetFree l (⟨"com/example/seshat/seshat/jpql/DatabaseNamedPinLaw", "expected", "(Ljava/lang/String;)Lcom/example/seshat/seshat/jpql/Database;"⟩ : MethodName) (head1 (Jvm.Cond.code (⟨"com/example/seshat/seshat/jpql/DatabaseNamedPinLaw", "expected", "(Ljava/lang/String;)Lcom/example/seshat/seshat/jpql/Database;"⟩ : MethodName) method_3_code 1 (some (.object "com/example/seshat/seshat/jpql/Database")) :: ws) ({ frames := 2, cells := 6, slots := 100, locals := 60 } : Room)) (fun a U => a = #[(.ref a0)] ∧ Z.Warmed39 U.vm ∧ U.heap = h0 ∧ CHv Z consts_1 U.vm h0) (fun _ _ _ _ _ => True) (fun _ U o U' => ∃ v L, o = .returned v ∧ Q19 Z cs_a0 w_COMPACT_STRINGS w_H2 w_POSTGRESQL w_MARIADB a0 h0 n0 v U'.heap L ∧ CHr Z consts_1 U.vm U.heap U'.vm U'.heap ∧ ReturnedEndW U o U' L ({ frames := 2, cells := 6, slots := 100, locals := 60 } : Room).cells ({ frames := 2, cells := 6, slots := 100, locals := 60 } : Room).slots) := by
  by_cases e0 : cs_a0 = ([104, 50] : List Int32)
  · exact own_mono (rm19a l Z A0 hw ws cs_a0 w_COMPACT_STRINGS w_H2 w_POSTGRESQL w_MARIADB a0 h0 n0 OLD x0 x1 x2 x3 x4 x5 e0) (fun _ _ _ _ ⟨v, L, h1, ⟨h2, h3, h4⟩, h5⟩ => ⟨v, L, h1, ⟨h2.trans (by rw [own_db0 e0]), h3, h4⟩, h5⟩)
  · by_cases e1 : cs_a0 = ([112, 111, 115, 116, 103, 114, 101, 115, 113, 108] : List Int32)
    · exact own_mono (rm19b l Z A0 hw ws cs_a0 w_COMPACT_STRINGS w_H2 w_POSTGRESQL w_MARIADB a0 h0 n0 OLD x0 x1 x2 x3 x4 x5 e0 e1) (fun _ _ _ _ ⟨v, L, h1, ⟨h2, h3, h4⟩, h5⟩ => ⟨v, L, h1, ⟨h2.trans (by rw [own_db1 e0 e1]), h3, h4⟩, h5⟩)
    · by_cases e2 : cs_a0 = ([109, 97, 114, 105, 97, 100, 98] : List Int32)
      · exact own_mono (rm19c l Z A0 hw ws cs_a0 w_COMPACT_STRINGS w_H2 w_POSTGRESQL w_MARIADB a0 h0 n0 OLD x0 x1 x2 x3 x4 x5 e0 e1 e2) (fun _ _ _ _ ⟨v, L, h1, ⟨h2, h3, h4⟩, h5⟩ => ⟨v, L, h1, ⟨h2.trans (by rw [own_db2 e0 e1 e2]), h3, h4⟩, h5⟩)
      · exact own_mono (rm19d l Z A0 hw ws cs_a0 w_COMPACT_STRINGS w_H2 w_POSTGRESQL w_MARIADB a0 h0 n0 OLD x0 x1 x2 x3 x4 x5 e0 e1 e2) (fun _ _ _ _ ⟨v, L, h1, ⟨h2, h3, h4⟩, h5⟩ => ⟨v, L, h1, ⟨h2.trans (by rw [own_db3 e0 e1 e2]), h3, h4⟩, h5⟩)
theorem d21_0 : decode jdk_42_method_149_code 0 = .ok (.aload_n 0, 1) := by decide +kernel
theorem d21_1 : decode jdk_42_method_149_code 1 = .ok (.invokespecial 1, 3) := by decide +kernel
theorem d21_4 : decode jdk_42_method_149_code 4 = .ok (.iload_n 3, 1) := by decide +kernel
theorem d21_5 : decode jdk_42_method_149_code 5 = .ok (.ifCond .ne 22, 3) := by decide +kernel
theorem d21_8 : decode jdk_42_method_149_code 8 = .ok (.aload_n 0, 1) := by decide +kernel
theorem d21_9 : decode jdk_42_method_149_code 9 = .ok (.ldc 7, 2) := by decide +kernel
theorem d21_11 : decode jdk_42_method_149_code 11 = .ok (.getfield 9, 3) := by decide +kernel
theorem d21_14 : decode jdk_42_method_149_code 14 = .ok (.putfield 9, 3) := by decide +kernel
theorem d21_17 : decode jdk_42_method_149_code 17 = .ok (.aload_n 0, 1) := by decide +kernel
theorem d21_18 : decode jdk_42_method_149_code 18 = .ok (.ldc 7, 2) := by decide +kernel
theorem d21_20 : decode jdk_42_method_149_code 20 = .ok (.getfield 15, 3) := by decide +kernel
theorem d21_23 : decode jdk_42_method_149_code 23 = .ok (.putfield 15, 3) := by decide +kernel
theorem d21_26 : decode jdk_42_method_149_code 26 = .ok (.return_, 1) := by decide +kernel
theorem ef_21n4 (m : MethodId) (x0 : Addr) (x1 : Addr) (x2 : Int32) (x3 : Int32) : entryFrame m #[(.ref x0), (.ref x1), (.int x2), (.int x3), .null] 6 = mkF m 0 #[vR x0, vR x1, vI x2, vI x3, .val .null, .unset] [] := by first | (simp [entryFrame, mkF, argsToLocals, Value.category]; done) | rfl
def Q21e (Z : State) (a0 : Addr) (a1 : Addr) (h0 : Heap) (n0 : Nat) (v : Option Value) (h : Heap) (L : List Loc) : Prop := v = none ∧ Fr n0 L ∧ Keep h0 h [a0] ∧ own_Txt Z h a0 ([] : List Int32)
set_option maxRecDepth 65536 in
set_option maxHeartbeats 40000000 in
theorem rm21e (l : Launch) (Z : State) (A0 : Array Value) (hw : ∀ d ∈ tables_1, d.before A0 Z = true) (ws : List Jvm.Cond) (a0 : Addr) (a1 : Addr) (h0 : Heap) (n0 : Nat) (OLD : Old Z n0 h0) (f_1 : Exa Z h0 a0 "java/lang/String") (f_2 : Fld Z h0 a0 "java/lang/String" "value" "[B" .null) (f_3 : Fld Z h0 a0 "java/lang/String" "coder" "B" (.int (0 : Int32))) (ge_a0 : n0 ≤ a0) :
    MetFree l (⟨"java/lang/String", "<init>", "([CIILjava/lang/Void;)V"⟩ : MethodName) (head1 (Jvm.Cond.code (⟨"java/lang/String", "<init>", "([CIILjava/lang/Void;)V"⟩ : MethodName) jdk_42_method_149_code 6 none :: ws) ({ frames := 1, cells := 4, slots := 10, locals := 12 } : Room)) (fun a U => a = #[(.ref a0), (.ref a1), (.int (0 : Int32)), (.int (0 : Int32)), .null] ∧ Z.Warmed39 U.vm ∧ U.heap = h0 ∧ CHv Z consts_1 U.vm h0) (fun _ _ _ _ _ => True) (fun _ U o U' => ∃ v L, o = .returned v ∧ Q21e Z a0 a1 h0 n0 v U'.heap L ∧ CHr Z consts_1 U.vm U.heap U'.vm U'.heap ∧ ReturnedEndW U o U' L ({ frames := 1, cells := 4, slots := 10, locals := 12 } : Room).cells ({ frames := 1, cells := 4, slots := 10, locals := 12 } : Room).slots) := by
  refine MetFree.of_bodySF (plainFor_of_name pn_java_lang_String) hisR ?_
  intro p e s m args below meth c s₁ Bd hml0 hP hK
  obtain ⟨rfl, hZ, hh, hCH⟩ := hP
  have hx := Bd.exec
  have hby := Bd.bytes
  have hml : c.maxLocals = 6 := hml0
  have hown : s.vm.findClass "java/lang/String" = some m.cls := findClass_of_methodNamed Bd.named
  have hnm := (name_of_methodNamed Bd.named Bd.method).1
  have X0 : Stand p l e ({ frames := 1, cells := 4, slots := 10, locals := 12 } : Room) (s.setVm s.vm) m #[(.ref a0), (.ref a1), (.int (0 : Int32)), (.int (0 : Int32)), .null] below meth c s₁ [] 0 0 := Stand.of_body Bd
  have e0 : s₁.heap = h0 := by rw [← hh, Bd.state]; rfl
  have hS0 : s.Since s.vm h0.size := (State.WarmedH.refl s).since _
  have hk0 : h0.size ≤ h0.size := Nat.le_refl _
  have hZ : Z.Warmed39 (s.setVm s.vm).vm := hZ
  have hown : (s.setVm s.vm).vm.findClass "java/lang/String" = some m.cls := hown
  have CH0 : CHr Z consts_1 (s.setVm s.vm).vm h0 (s.setVm s.vm).vm h0 := CHr.refl hCH
  have N0 := Fr.nil n0
  have pre0 : ∀ t, Steps p.tables e below (s₁.setTop (mkF m 0 #[vR a0, vR a1, vI (0 : Int32), vI (0 : Int32), .val .null, .unset] [])) t → Steps p.tables e below (s₁.setTop (entryFrame m #[(.ref a0), (.ref a1), (.int (0 : Int32)), (.int (0 : Int32)), .null] 6)) t := fun t k => castTop (ef_21n4 m a0 a1 (0 : Int32) (0 : Int32)) k
  obtain ⟨T4, X4, e4, st4⟩ := initO X0 hx hZ hown (hw _ (List.mem_of_getElem? (i := 65) rfl)) (hw _ (List.mem_of_getElem? (i := 66) rfl)) (hw _ (List.mem_of_getElem? (i := 67) rfl)) e0 (g := (mkF m 1 #[vR a0, vR a1, vI (0 : Int32), vI (0 : Int32), .val .null, .unset] [(.ref a0)])) rfl (by rw [hml]; rfl) rfl (hb hby d21_1) (by decide) (W := 0) (by show 2 * 0 + _ ≤ _; exact Nat.le_of_eq rfl) (by decide)
  obtain ⟨b5, T5, h5, k5, d5, kd5, X5, e5, E5, hS5, hk5, hZ5, hown5, A5, Fc5, Fv5, V5, la5, lb5, C5, -, sn5, st5⟩ := ldcCH (s := s) (EL := consts_1) X4 hx hZ hown (hw _ (List.mem_of_getElem? (i := 124) rfl)) (own_strs hw) e4 hS0 hk0 (own_EW hw) (by decide) CH0.1 (vs := []) (z := (0 : Int32)) ⟨by decide, by decide⟩ (by decide) (by decide) (g := (mkF m 9 #[vR a0, vR a1, vI (0 : Int32), vI (0 : Int32), .val .null, .unset] [(.ref a0)])) rfl (hb hby d21_9) (n := 1) (by decide) (by decide) (by decide) (by decide)
  have K_6 : Keep h0 h5 [a0] := (Keep.refl h0 [a0]).ext E5
  have CH_7 := CH0.trans C5
  obtain ⟨T8, X8, e8, st8⟩ := getF X5 hx hZ5 hown5 (host := "") (Or.inl (hw _ (List.mem_of_getElem? (i := 14) rfl))) Via.refl e5 Fv5 (g := (mkF m 11 #[vR a0, vR a1, vI (0 : Int32), vI (0 : Int32), .val .null, .unset] [(.ref b5), (.ref a0)])) rfl rfl (hb hby d21_11)
  have f_9 := f_1.ext E5
  have f_10 := f_2.ext E5
  obtain ⟨T11, h11, X11, e11, W11, st11⟩ := putF X8 hx hZ5 hown5 (host := "") (Or.inl (hw _ (List.mem_of_getElem? (i := 14) rfl))) Via.refl e8 f_10 f_9 (Or.inr ⟨(hw _ (List.mem_of_getElem? (i := 5) rfl)), rfl, hnm⟩) (hw _ (List.mem_of_getElem? (i := 3) rfl)) (ty := (.array .byte)) (by decide) rfl rfl (g := (mkF m 14 #[vR a0, vR a1, vI (0 : Int32), vI (0 : Int32), .val .null, .unset] [(.ref d5), (.ref a0)])) rfl rfl (hb hby d21_14)
  have N11 := Fr.snoc X11 N0 ge_a0
  have f_12 := f_10.same W11
  have K_13 : Keep h0 h11 [a0] := K_6.wr W11 (Or.inl (List.mem_of_getElem? (i := 0) rfl))
  have sf_14 : Safe Z consts_1 _ h5 a0 := own_safeNull (EL := consts_1) hZ5.alike f_9 f_10
  have CH_15 := CH_7.trans (CHr.wr W11 sf_14 CH_7.1)
  obtain ⟨b16, T16, h16, k16, d16, kd16, X16, e16, E16, hS16, hk16, hZ16, hown16, A16, Fc16, Fv16, V16, la16, lb16, C16, -, sn16, st16⟩ := ldcCH (s := s) (EL := consts_1) X11 hx hZ5 hown5 (hw _ (List.mem_of_getElem? (i := 124) rfl)) (own_strs hw) e11 hS5 (Nat.le_trans hk5 (Keep.of_wr W11).1) (own_EW hw) (by decide) CH_15.1 (vs := []) (z := (0 : Int32)) ⟨by decide, by decide⟩ (by decide) (by decide) (g := (mkF m 18 #[vR a0, vR a1, vI (0 : Int32), vI (0 : Int32), .val .null, .unset] [(.ref a0)])) rfl (hb hby d21_18) (n := 1) (by decide) (by decide) (by decide) (by decide)
  have K_17 : Keep h0 h16 [a0] := K_13.ext E16
  have CH_18 := CH_15.trans C16
  obtain ⟨T19, X19, e19, st19⟩ := getF X16 hx hZ16 hown16 (host := "") (Or.inl (hw _ (List.mem_of_getElem? (i := 21) rfl))) Via.refl e16 Fc16 (g := (mkF m 20 #[vR a0, vR a1, vI (0 : Int32), vI (0 : Int32), .val .null, .unset] [(.ref b16), (.ref a0)])) rfl rfl (hb hby d21_20)
  have f_20 := f_9.wr W11
  have f_21 := f_20.ext E16
  have f_22 := f_3.ext E5
  have f_23 := f_22.other W11 (Or.inr (slot_ne (Or.inr (hw _ (List.mem_of_getElem? (i := 6) rfl))) (Or.inr (hw _ (List.mem_of_getElem? (i := 5) rfl))) (by decide) (t := .byte) (t' := (.array .byte)) (by decide) (by decide)))
  have f_24 := f_23.ext E16
  obtain ⟨T25, h25, X25, e25, W25, st25⟩ := putFN X19 hx hZ16 hown16 (hw _ (List.mem_of_getElem? (i := 21) rfl)) Via.refl e19 f_24 f_21 (Or.inr ⟨(hw _ (List.mem_of_getElem? (i := 6) rfl)), rfl, hnm⟩) (hw _ (List.mem_of_getElem? (i := 3) rfl)) (ty := .byte) (v' := (.int (0 : Int32))) (by decide) (by decide) (by decide) (g := (mkF m 23 #[vR a0, vR a1, vI (0 : Int32), vI (0 : Int32), .val .null, .unset] [(.int (0 : Int32)), (.ref a0)])) rfl rfl (hb hby d21_23)
  have N25 := Fr.snoc X25 N11 ge_a0
  have f_26 := f_24.same W25
  have K_27 : Keep h0 h25 [a0] := K_17.wr W25 (Or.inl (List.mem_of_getElem? (i := 0) rfl))
  have sf_28 := Safe.wr W11 sf_14 CH_7.1 sf_14
  have sf_29 := CHr.safe C16 f_20.lt sf_28
  have CH_30 := CH_18.trans (CHr.wr W25 sf_29 CH_18.1)
  have f_31 := f_21.wr W25
  have f_32 := f_12.ext E16
  have f_33 := f_32.other W25 (Or.inr (slot_ne (Or.inr (hw _ (List.mem_of_getElem? (i := 5) rfl))) (Or.inr (hw _ (List.mem_of_getElem? (i := 6) rfl))) (by decide) (t := (.array .byte)) (t' := .byte) (by decide) (by decide)))
  have ne_34 : d5 ≠ a0 := Ne.symm (sn5 _ sf_14).2
  have f_35 := V5.other W11 ne_34
  have f_36 := f_35.ext E16
  have f_37 := f_36.other W25 ne_34
  obtain ⟨fs, hr, hrun, hended, hRW⟩ := X25.leaveW (s := s) hS16 (by rw [e25]; exact (Nat.le_trans hk16 (Keep.of_wr W25).1)) (v := none) (fun _ => rfl)
  refine ⟨_, _, pre0 _ ?_, hrun, hended, _, _, rfl, ?_, (by have q := CH_30.trans (CHv.at X25 hZ16 (own_EW hw) CH_30.1); rw [hh]; show CHr Z consts_1 s.vm h0 T25.vm T25.heap; rw [e25]; exact q), hRW.1, hRW.2.1, hRW.2.2.1, hRW.2.2.2.mono (by decide) (by decide)⟩
  · show Steps p.tables e below (s₁.setTop (mkF m 0 #[vR a0, vR a1, vI (0 : Int32), vI (0 : Int32), .val .null, .unset] [])) _
    refine XS.aloadN X0.here hx rfl (hb hby d21_0) rfl rfl ?_
    refine st4 _ ?_
    show Steps p.tables e below (T4.setTop (mkF m 4 #[vR a0, vR a1, vI (0 : Int32), vI (0 : Int32), .val .null, .unset] [])) _
    refine XS.iloadN X4.here hx rfl (hb hby d21_4) rfl ?_
    refine XS.ifNo X4.here hx rfl (hb hby d21_5) rfl ((if0 _ _).trans (teq (by decide : (0 : Int32) = (0 : Int32))).2) ?_
    show Steps p.tables e below (T4.setTop (mkF m 8 #[vR a0, vR a1, vI (0 : Int32), vI (0 : Int32), .val .null, .unset] [])) _
    refine XS.aloadN X4.here hx rfl (hb hby d21_8) rfl rfl ?_
    refine st5 _ ?_
    show Steps p.tables e below (T5.setTop (mkF m 11 #[vR a0, vR a1, vI (0 : Int32), vI (0 : Int32), .val .null, .unset] [(.ref b5), (.ref a0)])) _
    refine st8 _ ?_
    refine st11 _ ?_
    show Steps p.tables e below (T11.setTop (mkF m 17 #[vR a0, vR a1, vI (0 : Int32), vI (0 : Int32), .val .null, .unset] [])) _
    refine XS.aloadN X11.here hx rfl (hb hby d21_17) rfl rfl ?_
    refine st16 _ ?_
    show Steps p.tables e below (T16.setTop (mkF m 20 #[vR a0, vR a1, vI (0 : Int32), vI (0 : Int32), .val .null, .unset] [(.ref b16), (.ref a0)])) _
    refine st19 _ ?_
    refine st25 _ ?_
    show Steps p.tables e below (T25.setTop (mkF m 26 #[vR a0, vR a1, vI (0 : Int32), vI (0 : Int32), .val .null, .unset] [])) _
    exact X25.returnOut hx Bd.returns (hb hby d21_26) hr
  · show Q21e Z a0 a1 h0 n0 _ T25.heap _
    rw [e25]
    exact ⟨rfl, N25, K_27, (own_txtK (cs := ([] : List Int32)) f_31 f_33 f_26 f_37 rfl rfl (by decide) (by decide))⟩
theorem pd_10 : parseMethodDescriptor "([CIILjava/lang/Void;)V" = some ⟨[(.array .char), .int, .int, (.object "java/lang/Void")], none⟩ := by decide +kernel
theorem d20_0 : decode jdk_42_method_3_code 0 = .ok (.aload_n 0, 1) := by decide +kernel
theorem d20_1 : decode jdk_42_method_3_code 1 = .ok (.aload_n 1, 1) := by decide +kernel
theorem d20_2 : decode jdk_42_method_3_code 2 = .ok (.iconst 0, 1) := by decide +kernel
theorem d20_3 : decode jdk_42_method_3_code 3 = .ok (.aload_n 1, 1) := by decide +kernel
theorem d20_4 : decode jdk_42_method_3_code 4 = .ok (.arraylength, 1) := by decide +kernel
theorem d20_5 : decode jdk_42_method_3_code 5 = .ok (.aconst_null, 1) := by decide +kernel
theorem d20_6 : decode jdk_42_method_3_code 6 = .ok (.invokespecial 27, 3) := by decide +kernel
theorem d20_9 : decode jdk_42_method_3_code 9 = .ok (.return_, 1) := by decide +kernel
theorem ef_20 (m : MethodId) (x0 : Addr) (x1 : Addr) : entryFrame m #[(.ref x0), (.ref x1)] 2 = mkF m 0 #[vR x0, vR x1] [] := by first | (simp [entryFrame, mkF, argsToLocals, Value.category]; done) | rfl
def Q20e (Z : State) (kc : ClassId) (a0 : Addr) (a1 : Addr) (h0 : Heap) (n0 : Nat) (v : Option Value) (h : Heap) (L : List Loc) : Prop := v = none ∧ Fr n0 L ∧ Keep h0 h [a0] ∧ own_Txt Z h a0 ([] : List Int32)
set_option maxRecDepth 65536 in
set_option maxHeartbeats 40000000 in
theorem rm20e (l : Launch) (Z : State) (A0 : Array Value) (hw : ∀ d ∈ tables_1, d.before A0 Z = true) (ws : List Jvm.Cond) (kc : ClassId) (a0 : Addr) (a1 : Addr) (h0 : Heap) (n0 : Nat) (OLD : Old Z n0 h0) (f_1 : Exa Z h0 a0 "java/lang/String") (f_2 : Fld Z h0 a0 "java/lang/String" "value" "[B" .null) (f_3 : Fld Z h0 a0 "java/lang/String" "coder" "B" (.int (0 : Int32))) (f_4 : Arv Z h0 a1 kc .char (0 : Int32) [] (.int (0 : Int32))) (ge_a0 : n0 ≤ a0) :
    MetFree l (⟨"java/lang/String", "<init>", "([C)V"⟩ : MethodName) (head1 (Jvm.Cond.code (⟨"java/lang/String", "<init>", "([C)V"⟩ : MethodName) jdk_42_method_3_code 2 none :: ws) ({ frames := 2, cells := 4, slots := 10, locals := 29 } : Room)) (fun a U => a = #[(.ref a0), (.ref a1)] ∧ Z.Warmed39 U.vm ∧ U.heap = h0 ∧ CHv Z consts_1 U.vm h0) (fun _ _ _ _ _ => True) (fun _ U o U' => ∃ v L, o = .returned v ∧ Q20e Z kc a0 a1 h0 n0 v U'.heap L ∧ CHr Z consts_1 U.vm U.heap U'.vm U'.heap ∧ ReturnedEndW U o U' L ({ frames := 2, cells := 4, slots := 10, locals := 29 } : Room).cells ({ frames := 2, cells := 4, slots := 10, locals := 29 } : Room).slots) := by
  refine MetFree.of_bodySF (plainFor_of_name pn_java_lang_String) hisR ?_
  intro p e s m args below meth c s₁ Bd hml0 hP hK
  obtain ⟨rfl, hZ, hh, hCH⟩ := hP
  have hx := Bd.exec
  have hby := Bd.bytes
  have hml : c.maxLocals = 2 := hml0
  have hown : s.vm.findClass "java/lang/String" = some m.cls := findClass_of_methodNamed Bd.named
  have hnm := (name_of_methodNamed Bd.named Bd.method).1
  have X0 : Stand p l e ({ frames := 2, cells := 4, slots := 10, locals := 29 } : Room) (s.setVm s.vm) m #[(.ref a0), (.ref a1)] below meth c s₁ [] 0 0 := Stand.of_body Bd
  have e0 : s₁.heap = h0 := by rw [← hh, Bd.state]; rfl
  have hS0 : s.Since s.vm h0.size := (State.WarmedH.refl s).since _
  have hk0 : h0.size ≤ h0.size := Nat.le_refl _
  have hZ : Z.Warmed39 (s.setVm s.vm).vm := hZ
  have hown : (s.setVm s.vm).vm.findClass "java/lang/String" = some m.cls := hown
  have CH0 : CHr Z consts_1 (s.setVm s.vm).vm h0 (s.setVm s.vm).vm h0 := CHr.refl hCH
  have N0 := Fr.nil n0
  have pre0 : ∀ t, Steps p.tables e below (s₁.setTop (mkF m 0 #[vR a0, vR a1] [])) t → Steps p.tables e below (s₁.setTop (entryFrame m #[(.ref a0), (.ref a1)] 2)) t := fun t k => castTop (ef_20 m a0 a1) k
  obtain ⟨cl5, Ar5, -, s5, n5, -, -⟩ := id (f_4)
  obtain ⟨_, _, ⟨T6, L6, k6, n6⟩, -, X6, hS6q, hg6q, ⟨Lc6, hQ6, l6, y6, z6, C6⟩, st6⟩ := X0.specialBackS hx (y := (⟨"java/lang/String", "<init>", "([CIILjava/lang/Void;)V"⟩ : MethodName)) rfl hown (mvT hZ (hw _ (List.mem_of_getElem? (i := 111) rfl))) (mvT hZ (hw _ (List.mem_of_getElem? (i := 112) rfl))) (mvT hZ (hw _ (List.mem_of_getElem? (i := 113) rfl))) (by decide) (backOfSH (W := 0) (rm21e l Z A0 hw [] a0 a1 h0 n0 OLD f_1 f_2 f_3 ge_a0) hZ (hw _ (List.mem_of_getElem? (i := 113) rfl)) (hw _ (List.mem_of_getElem? (i := 2) rfl)) (by decide) (by decide) (own_EW hw) CH0.1) (g := (mkF m 6 #[vR a0, vR a1] [.null, (.int (0 : Int32)), (.int (0 : Int32)), (.ref a1), (.ref a0)])) rfl (by rw [hml]; rfl) (Steps.refl _) (a := a0) (argsL := [(.ref a1), (.int (0 : Int32)), (.int (0 : Int32)), .null]) (rest := []) (lenOf pd_10 rfl) rfl (by show 2 * 0 + _ ≤ _; exact Nat.le_of_eq rfl) (hb hby d20_6) (fun _ _ => ⟨rfl, e0, (by decide : 0 + 4 ≤ _), (by decide : 0 + 10 ≤ _)⟩)
  dsimp only [Pt.U, Pt.locs, Pt.cells, Pt.slots] at X6 l6 y6 z6 st6 hQ6
  subst l6 y6 z6
  dsimp only [Pt.U, Pt.locs, Pt.cells, Pt.slots] at hS6q hg6q
  have hS6 := foldS (T := s₁) hS0 (by rw [e0]; exact hk0) hS6q hg6q
  have hZ6 : Z.Warmed39 (s.setVm T6.vm).vm := State.Warmed39.trans (t := s.setVm _) hZ hS6q.1
  have hown6 : (s.setVm T6.vm).vm.findClass "java/lang/String" = some m.cls := by rw [show (s.setVm T6.vm).vm = T6.vm from rfl, hS6q.1.alike.findClass]; exact hown
  have X6 : Stand p l e _ (s.setVm T6.vm) m _ below meth c T6 _ _ _ := X6
  dsimp only [Pt.U] at C6
  obtain ⟨rfl, N6q, K6, g6_0⟩ := hQ6
  have N6 := Fr.app N0 N6q
  have K_7 : Keep h0 T6.heap [a0] := Keep.trans (Keep.refl h0 [a0]) K6 (allS (Or.inl (List.mem_of_getElem? (i := 0) rfl)) all0)
  have CH_8 := CH0.trans C6
  have f_9 := f_1.keep K6
  obtain ⟨fs, hr, hrun, hended, hRW⟩ := X6.leaveW (s := s) hS6 (Nat.le_refl _) (v := none) (fun _ => rfl)
  refine ⟨_, _, pre0 _ ?_, hrun, hended, _, _, rfl, ?_, (by have q := CH_8.trans (CHv.at X6 hZ6 (own_EW hw) CH_8.1); rw [hh]; show CHr Z consts_1 s.vm h0 T6.vm T6.heap; exact q), hRW.1, hRW.2.1, hRW.2.2.1, hRW.2.2.2.mono (by decide) (by decide)⟩
  · show Steps p.tables e below (s₁.setTop (mkF m 0 #[vR a0, vR a1] [])) _
    refine XS.aloadN X0.here hx rfl (hb hby d20_0) rfl rfl ?_
    refine XS.aloadN X0.here hx rfl (hb hby d20_1) rfl rfl ?_
    show Steps p.tables e below (s₁.setTop (mkF m 2 #[vR a0, vR a1] [(.ref a1), (.ref a0)])) _
    refine XS.iconst X0.here hx rfl (hb hby d20_2) ?_
    refine XS.aloadN X0.here hx rfl (hb hby d20_3) rfl rfl ?_
    show Steps p.tables e below (s₁.setTop (mkF m 4 #[vR a0, vR a1] [(.ref a1), (.int (0 : Int32)), (.ref a1), (.ref a0)])) _
    refine X0.arraylength hx (by rw [e0]; exact Ar5.1) (State.isArrayOf_alike hZ.alike Ar5.2.1) (g := (mkF m 4 #[vR a0, vR a1] [(.ref a1), (.int (0 : Int32)), (.ref a1), (.ref a0)])) rfl rfl (hb hby d20_4) _ ?_
    rw [len_of s5 n5]
    refine XS.aconstNull X0.here hx rfl (hb hby d20_5) ?_
    show Steps p.tables e below (s₁.setTop (mkF m 6 #[vR a0, vR a1] [.null, (.int (0 : Int32)), (.int (0 : Int32)), (.ref a1), (.ref a0)])) _
    refine st6.trans ?_
    show Steps p.tables e below (T6.setTop (mkF m 9 #[vR a0, vR a1] [])) _
    exact X6.returnOut hx Bd.returns (hb hby d20_9) hr
  · show Q20e Z kc a0 a1 h0 n0 _ T6.heap _
    exact ⟨rfl, N6, K_7, g6_0⟩
theorem pd_11 : parseMethodDescriptor "(Ljava/lang/String;IIC)Ljava/lang/String;" = some ⟨[(.object "java/lang/String"), .int, .int, .char], some (.object "java/lang/String")⟩ := by decide +kernel
theorem pd_12 : parseMethodDescriptor "(Ljava/lang/String;)Lcom/example/seshat/seshat/jpql/Database;" = some ⟨[(.object "java/lang/String")], some (.object "com/example/seshat/seshat/jpql/Database")⟩ := by decide +kernel
theorem ef_0 (m : MethodId) (x0 : Int32) (x1 : Int32) (x2 : Int32) (x3 : Int32) : entryFrame m #[(.int x0), (.int x1), (.int x2), (.int x3)] maxLocals = mkF m 0 #[vI x0, vI x1, vI x2, vI x3, .unset, .unset, .unset, .unset, .unset, .unset, .unset] [] := by first | (simp [entryFrame, mkF, argsToLocals, Value.category, maxLocals]; done) | rfl
def Q0k0 (Z : State) (w_VALUES : Addr) (k_VALUES : ClassId) (w_H2 : Addr) (w_POSTGRESQL : Addr) (w_MARIADB : Addr) (w_COMPACT_STRINGS : Int32) (w_SIOOBE_FORMATTER : Value) (pv_H2 : Addr) (pv_POSTGRESQL : Addr) (pv_MARIADB : Addr) (pp : Int32) (c3 : Int32) (p0 : Int32) (p1 : Int32) (p2 : Int32) (p3 : Int32) (h0 : Heap) (n0 : Nat) (v : Option Value) (h : Heap) (L : List Loc) : Prop := v = some (.int (1 : Int32)) ∧ Fr n0 L
set_option maxRecDepth 65536 in
set_option maxHeartbeats 40000000 in
theorem rm0k0 (l : Launch) (Z : State) (A0 : Array Value) (hw : ∀ d ∈ tables_1, d.before A0 Z = true) (ws : List Jvm.Cond) (w_VALUES : Addr) (k_VALUES : ClassId) (w_H2 : Addr) (w_POSTGRESQL : Addr) (w_MARIADB : Addr) (w_COMPACT_STRINGS : Int32) (w_SIOOBE_FORMATTER : Value) (pv_H2 : Addr) (pv_POSTGRESQL : Addr) (pv_MARIADB : Addr) (pp : Int32) (c3 : Int32) (p0 : Int32) (p1 : Int32) (p2 : Int32) (p3 : Int32) (h0 : Heap) (n0 : Nat) (OLD : Old Z n0 h0) (f_1 : Sta Z Z.heap "com/example/seshat/seshat/jpql/Database" "$VALUES" "[Lcom/example/seshat/seshat/jpql/Database;" (.ref w_VALUES)) (f_2 : Exa Z Z.heap w_VALUES "[Lcom/example/seshat/seshat/jpql/Database;") (f_3 : Arv Z Z.heap w_VALUES k_VALUES (.object "com/example/seshat/seshat/jpql/Database") (3 : Int32) [(.ref w_H2), (.ref w_POSTGRESQL), (.ref w_MARIADB)] .null) (f_4 : Sta Z Z.heap "java/lang/String" "COMPACT_STRINGS" "Z" (.int w_COMPACT_STRINGS)) (c_5 : ¬ (w_COMPACT_STRINGS = (0 : Int32))) (f_6 : Sta Z Z.heap "jdk/internal/util/Preconditions" "SIOOBE_FORMATTER" "Ljava/util/function/BiFunction;" w_SIOOBE_FORMATTER) (c_7 : w_SIOOBE_FORMATTER.isRef = true) (f_8 : Fld Z Z.heap w_H2 "com/example/seshat/seshat/jpql/Database" "propertyValue" "Ljava/lang/String;" (.ref pv_H2)) (f_9 : Fld Z Z.heap w_POSTGRESQL "com/example/seshat/seshat/jpql/Database" "propertyValue" "Ljava/lang/String;" (.ref pv_POSTGRESQL)) (f_10 : Fld Z Z.heap w_MARIADB "com/example/seshat/seshat/jpql/Database" "propertyValue" "Ljava/lang/String;" (.ref pv_MARIADB)) (f_11 : own_Txt Z Z.heap pv_H2 ([104, 50] : List Int32)) (f_12 : own_Txt Z Z.heap pv_POSTGRESQL ([112, 111, 115, 116, 103, 114, 101, 115, 113, 108] : List Int32)) (f_13 : own_Txt Z Z.heap pv_MARIADB ([109, 97, 114, 105, 97, 100, 98] : List Int32)) (f_14 : Sta Z Z.heap "com/example/seshat/seshat/jpql/Database" "H2" "Lcom/example/seshat/seshat/jpql/Database;" (.ref w_H2)) (f_15 : Sta Z Z.heap "com/example/seshat/seshat/jpql/Database" "POSTGRESQL" "Lcom/example/seshat/seshat/jpql/Database;" (.ref w_POSTGRESQL)) (f_16 : Sta Z Z.heap "com/example/seshat/seshat/jpql/Database" "MARIADB" "Lcom/example/seshat/seshat/jpql/Database;" (.ref w_MARIADB)) (c_17 : own_B c3) (c_18 : ((p0 &&& (2147483647 : Int32)) % (4 : Int32)) = (0 : Int32)) (c_19 : ((p2 &&& (2147483647 : Int32)) % (4 : Int32)) = pp) (c_20 : ((p3 &&& (255 : Int32)).toUInt32.toUInt16.toUInt32.toInt32) = c3) (c_26 : own_lens ((1 : Int32) + ((p1 &&& (2147483647 : Int32)) % (3 : Int32)))) :
    MetFree l x (head1 (Jvm.Cond.code x code maxLocals ret :: ws) room_1) (fun a U => a = #[(.int p0), (.int p1), (.int p2), (.int p3)] ∧ Z.Warmed39 U.vm ∧ U.heap = h0 ∧ CHv Z consts_1 U.vm h0) (fun _ _ _ _ _ => True) (fun _ U o U' => ∃ v L, o = .returned v ∧ Q0k0 Z w_VALUES k_VALUES w_H2 w_POSTGRESQL w_MARIADB w_COMPACT_STRINGS w_SIOOBE_FORMATTER pv_H2 pv_POSTGRESQL pv_MARIADB pp c3 p0 p1 p2 p3 h0 n0 v U'.heap L ∧ CHr Z consts_1 U.vm U.heap U'.vm U'.heap ∧ ReturnedEndW U o U' L room_1.cells room_1.slots) := by
  refine MetFree.of_bodySF (plainFor_of_name pn_com_example_seshat_seshat_jpql_DatabaseNamedPinLaw) hisR ?_
  intro p e s m args below meth c s₁ Bd hml0 hP hK
  obtain ⟨rfl, hZ, hh, hCH⟩ := hP
  have hx := Bd.exec
  have hby := Bd.bytes
  have hml : c.maxLocals = 11 := hml0
  have hown : s.vm.findClass "com/example/seshat/seshat/jpql/DatabaseNamedPinLaw" = some m.cls := findClass_of_methodNamed Bd.named
  have hnm := (name_of_methodNamed Bd.named Bd.method).1
  have X0 : Stand p l e room_1 (s.setVm s.vm) m #[(.int p0), (.int p1), (.int p2), (.int p3)] below meth c s₁ [] 0 0 := Stand.of_body Bd
  have e0 : s₁.heap = h0 := by rw [← hh, Bd.state]; rfl
  have hS0 : s.Since s.vm h0.size := (State.WarmedH.refl s).since _
  have hk0 : h0.size ≤ h0.size := Nat.le_refl _
  have hZ : Z.Warmed39 (s.setVm s.vm).vm := hZ
  have hown : (s.setVm s.vm).vm.findClass "com/example/seshat/seshat/jpql/DatabaseNamedPinLaw" = some m.cls := hown
  have CH0 : CHr Z consts_1 (s.setVm s.vm).vm h0 (s.setVm s.vm).vm h0 := CHr.refl hCH
  have N0 := Fr.nil n0
  have pre0 : ∀ t, Steps p.tables e below (s₁.setTop (mkF m 0 #[vI p0, vI p1, vI p2, vI p3, .unset, .unset, .unset, .unset, .unset, .unset, .unset] [])) t → Steps p.tables e below (s₁.setTop (entryFrame m #[(.int p0), (.int p1), (.int p2), (.int p3)] maxLocals)) t := fun t k => castTop (ef_0 m p0 p1 p2 p3) k
  obtain ⟨b21, T21, h21, k21, d21, kd21, X21, e21, E21, hS21, hk21, hZ21, hown21, A21, Fc21, Fv21, V21, la21, lb21, C21, -, sn21, st21⟩ := ldcCH (s := s) (EL := consts_1) X0 hx hZ hown (hw _ (List.mem_of_getElem? (i := 1) rfl)) (own_strs hw) e0 hS0 hk0 (own_EW hw) (by decide) CH0.1 (vs := [(.int (104 : Int32)), (.int (50 : Int32))]) (z := (2 : Int32)) ⟨by decide, by decide⟩ (by decide) (by decide) (g := (mkF m 153 #[vI p0, vI p1, vI p2, vI p3, vI (0 : Int32), .unset, .unset, .unset, .unset, .unset, .unset] [])) rfl (hb hby at_153) (n := 8) (by decide) (by decide) (by decide) (by decide)
  have K_22 : Keep h0 h21 [] := (Keep.refl h0 []).ext E21
  have CH_23 := CH0.trans C21
  have O_24 := Old.ext OLD E21
  obtain ⟨cq25, kq25, q25a, q25b, q25c⟩ := isOf hZ21 e21 A21
  obtain ⟨_, _, ⟨T25, L25, k25, n25⟩, -, X25, ⟨Lc25, hQ25, l25, y25, z25⟩, st25⟩ := X21.virtualBack hx (y := (⟨"java/lang/String", "length", "()I"⟩ : MethodName)) (z := (⟨"java/lang/String", "length", "()I"⟩ : MethodName)) hown21 (mvT hZ21 (hw _ (List.mem_of_getElem? (i := 9) rfl))) (mvT hZ21 (hw _ (List.mem_of_getElem? (i := 10) rfl))) (notFace_of_selects (args := #[]) (mvT hZ21 (hw _ (List.mem_of_getElem? (i := 12) rfl)))) (mvT hZ21 (hw _ (List.mem_of_getElem? (i := 12) rfl))) (mvT hZ21 (hw _ (List.mem_of_getElem? (i := 11) rfl))) (by decide) (own_lenB (W := 0) (N := (2 : Int32)) hZ21 hw O_24 f_4 c_5 (own_txtK (cs := ([104, 50] : List Int32)) A21 Fv21 Fc21 V21 rfl rfl (by decide) (by decide)) rfl (by decide) (by decide)) q25a q25c (g := (mkF m 175 #[vI p0, vI p1, vI p2, vI p3, vI (0 : Int32), .unset, vR b21, .unset, .unset, .unset, .unset] [(.ref b21)])) rfl (by rw [hml]; rfl) (Steps.refl _) (argsL := []) (rest := []) (lenOf pd_0 rfl) rfl (by show 2 * 0 + _ ≤ _; exact Nat.le_of_eq rfl) (hb hby at_175) (fun _ _ => ⟨rfl, e21, (by decide : 2 + 0 ≤ _), (by decide : 12 + 0 ≤ _)⟩)
  dsimp only [Pt.U, Pt.locs, Pt.cells, Pt.slots] at X25 l25 y25 z25 st25 hQ25
  subst l25 y25 z25
  obtain ⟨rfl, N25q, e25⟩ := hQ25
  have N25 := Fr.app N0 N25q
  obtain ⟨_, _, ⟨T27, L27, k27, n27⟩, -, X27, ⟨Lc27, hQ27, l27, y27, z27⟩, st27⟩ := Jvm.LawKit.callS X25 hx (y := (⟨"com/example/seshat/seshat/jpql/DatabaseNamedPinLaw", "word", "(Ljava/lang/String;IIC)Ljava/lang/String;"⟩ : MethodName)) hown21 (mvT hZ21 (hw _ (List.mem_of_getElem? (i := 22) rfl))) (mvT hZ21 (hw _ (List.mem_of_getElem? (i := 23) rfl))) (mvT hZ21 (hw _ (List.mem_of_getElem? (i := 24) rfl))) (mvT hZ21 (hw _ (List.mem_of_getElem? (i := 25) rfl))) (by decide) (backOf (W := 0) (rm3 l Z A0 hw [] ((1 : Int32) + ((p1 &&& (2147483647 : Int32)) % (3 : Int32))) ([104, 50] : List Int32) w_COMPACT_STRINGS w_SIOOBE_FORMATTER b21 pp c3 h21 n0 O_24 (own_txtK (cs := ([104, 50] : List Int32)) A21 Fv21 Fc21 V21 rfl rfl (by decide) (by decide)) c_17 f_4 c_5 f_6 c_7 c_26) hZ21 (hw _ (List.mem_of_getElem? (i := 25) rfl)) (hw _ (List.mem_of_getElem? (i := 24) rfl)) (by decide) (by decide)) (g := (mkF m 220 #[vI p0, vI p1, vI p2, vI p3, vI (0 : Int32), .unset, vR b21, vI (2 : Int32), vI ((1 : Int32) + ((p1 &&& (2147483647 : Int32)) % (3 : Int32))), vI pp, vI c3] [(.int c3), (.int pp), (.int ((1 : Int32) + ((p1 &&& (2147483647 : Int32)) % (3 : Int32)))), (.ref b21)])) rfl (by rw [hml]; rfl) (argsL := [(.ref b21), (.int ((1 : Int32) + ((p1 &&& (2147483647 : Int32)) % (3 : Int32)))), (.int pp), (.int c3)]) (rest := []) (lenOf pd_11 rfl) rfl (by show 2 * 0 + _ ≤ _; exact Nat.le_of_eq rfl) (hb hby at_220) (fun _ _ => ⟨rfl, e25, (by decide : 2 + 3 ≤ _), (by decide : 12 + 40 ≤ _)⟩)
  dsimp only [Pt.U, Pt.locs, Pt.cells, Pt.slots] at X27 l27 y27 z27 st27 hQ27
  subst l27 y27 z27
  obtain ⟨b_27, cs_out_27, rfl, N27q, K27, g27_0, g27_1⟩ := hQ27
  have N27 := Fr.app N25 N27q
  have K_28 : Keep h0 T27.heap [] := Keep.trans K_22 K27 all0
  have CH_29 := CH_23.trans (CHr.keep K27 sf0 CH_23.1)
  have O_30 := Old.keep O_24 K27 all0
  obtain ⟨_, _, ⟨T31, L31, k31, n31⟩, -, X31, ⟨Lc31, hQ31, l31, y31, z31⟩, st31⟩ := Jvm.LawKit.callS X27 hx (y := (⟨"com/example/seshat/seshat/jpql/Database", "named", "(Ljava/lang/String;)Lcom/example/seshat/seshat/jpql/Database;"⟩ : MethodName)) hown21 (mvT hZ21 (hw _ (List.mem_of_getElem? (i := 68) rfl))) (mvT hZ21 (hw _ (List.mem_of_getElem? (i := 69) rfl))) (mvT hZ21 (hw _ (List.mem_of_getElem? (i := 70) rfl))) (mvT hZ21 (hw _ (List.mem_of_getElem? (i := 71) rfl))) (by decide) (backOf (W := 0) (rm15 l Z A0 hw [] w_VALUES k_VALUES w_H2 w_POSTGRESQL w_MARIADB cs_out_27 w_COMPACT_STRINGS pv_H2 pv_POSTGRESQL pv_MARIADB b_27 T27.heap n0 O_30 f_1 f_2 f_3 g27_1 f_4 c_5 f_8 f_9 f_10 f_11 f_12 f_13) hZ21 (hw _ (List.mem_of_getElem? (i := 71) rfl)) (hw _ (List.mem_of_getElem? (i := 70) rfl)) (by decide) (by decide)) (g := (mkF m 227 #[vI p0, vI p1, vI p2, vI p3, vI (0 : Int32), vR b_27, vR b21, vI (2 : Int32), vI ((1 : Int32) + ((p1 &&& (2147483647 : Int32)) % (3 : Int32))), vI pp, vI c3] [(.ref b_27)])) rfl (by rw [hml]; rfl) (argsL := [(.ref b_27)]) (rest := []) (lenOf pd_12 rfl) rfl (by show 2 * 0 + _ ≤ _; exact Nat.le_of_eq rfl) (hb hby at_227) (fun _ _ => ⟨rfl, rfl, (by decide : 5 + 1 ≤ _), (by decide : 52 + 3 ≤ _)⟩)
  dsimp only [Pt.U, Pt.locs, Pt.cells, Pt.slots] at X31 l31 y31 z31 st31 hQ31
  subst l31 y31 z31
  obtain ⟨rfl, N31q, K31⟩ := hQ31
  have N31 := Fr.app N27 N31q
  have K_32 : Keep h0 T31.heap [] := Keep.trans K_28 K31 all0
  have CH_33 := CH_29.trans (CHr.keep K31 sf0 CH_29.1)
  have f_34 := g27_1.keep0 K31
  have O_36 := Old.keep O_30 K31 all0
  obtain ⟨_, _, ⟨T35, L35, k35, n35⟩, -, X35, hS35q, hg35q, ⟨Lc35, hQ35, l35, y35, z35, C35⟩, st35⟩ := callSS X31 hx (y := (⟨"com/example/seshat/seshat/jpql/DatabaseNamedPinLaw", "expected", "(Ljava/lang/String;)Lcom/example/seshat/seshat/jpql/Database;"⟩ : MethodName)) hown21 (mvT hZ21 (hw _ (List.mem_of_getElem? (i := 100) rfl))) (mvT hZ21 (hw _ (List.mem_of_getElem? (i := 101) rfl))) (mvT hZ21 (hw _ (List.mem_of_getElem? (i := 24) rfl))) (mvT hZ21 (hw _ (List.mem_of_getElem? (i := 102) rfl))) (by decide) (backOfSH (W := 1) (rm19 l Z A0 hw [] cs_out_27 w_COMPACT_STRINGS w_H2 w_POSTGRESQL w_MARIADB b_27 T31.heap n0 O_36 f_34 f_4 c_5 f_14 f_15 f_16) hZ21 (hw _ (List.mem_of_getElem? (i := 102) rfl)) (hw _ (List.mem_of_getElem? (i := 24) rfl)) (by decide) (by decide) (own_EW hw) CH_33.1) (g := (mkF m 232 #[vI p0, vI p1, vI p2, vI p3, vI (0 : Int32), vR b_27, vR b21, vI (2 : Int32), vI ((1 : Int32) + ((p1 &&& (2147483647 : Int32)) % (3 : Int32))), vI pp, vI c3] [(.ref b_27), (own_db cs_out_27 w_H2 w_POSTGRESQL w_MARIADB)])) rfl (by rw [hml]; rfl) (argsL := [(.ref b_27)]) (rest := [(own_db cs_out_27 w_H2 w_POSTGRESQL w_MARIADB)]) (lenOf pd_12 rfl) rfl (by show 2 * 0 + _ ≤ _; simp [own_dbC]) (hb hby at_232) (fun _ _ => ⟨rfl, rfl, (by decide : 6 + 6 ≤ _), (by decide : 55 + 100 ≤ _)⟩)
  dsimp only [Pt.U, Pt.locs, Pt.cells, Pt.slots] at X35 l35 y35 z35 st35 hQ35
  subst l35 y35 z35
  dsimp only [Pt.U, Pt.locs, Pt.cells, Pt.slots] at hS35q hg35q
  have hS35 := foldS (T := T31) hS21 (Nat.le_trans (Nat.le_trans hk21 K27.1) K31.1) hS35q hg35q
  have hZ35 : Z.Warmed39 (s.setVm T35.vm).vm := State.Warmed39.trans (t := s.setVm _) hZ21 hS35q.1
  have hown35 : (s.setVm T35.vm).vm.findClass "com/example/seshat/seshat/jpql/DatabaseNamedPinLaw" = some m.cls := by rw [show (s.setVm T35.vm).vm = T35.vm from rfl, hS35q.1.alike.findClass]; exact hown21
  have X35 : Stand p l e room_1 (s.setVm T35.vm) m _ below meth c T35 _ _ _ := X35
  dsimp only [Pt.U] at C35
  obtain ⟨rfl, N35q, K35⟩ := hQ35
  have N35 := Fr.app N31 N35q
  have K_37 : Keep h0 T35.heap [] := Keep.trans K_32 K35 all0
  have CH_38 := CH_33.trans C35
  obtain ⟨fs, hr, hrun, hended, hRW⟩ := X35.leaveW (s := s) hS35 (Nat.le_refl _) (v := some (.int (1 : Int32))) (fun h => by rw [Bd.returns] at h; cases h)
  refine ⟨_, _, pre0 _ ?_, hrun, hended, _, _, rfl, ?_, (by have q := CH_38.trans (CHv.at X35 hZ35 (own_EW hw) CH_38.1); rw [hh]; show CHr Z consts_1 s.vm h0 T35.vm T35.heap; exact q), hRW.1, hRW.2.1, hRW.2.2.1, hRW.2.2.2.mono (by decide) (by decide)⟩
  · show Steps p.tables e below (s₁.setTop (mkF m 0 #[vI p0, vI p1, vI p2, vI p3, .unset, .unset, .unset, .unset, .unset, .unset, .unset] [])) _
    refine XS.iloadN X0.here hx rfl (hb hby at_0) rfl ?_
    refine X0.ldcInt hx hown (mvT hZ (hw _ (List.mem_of_getElem? (i := 0) rfl))) (g := (mkF m 1 #[vI p0, vI p1, vI p2, vI p3, .unset, .unset, .unset, .unset, .unset, .unset, .unset] [(.int p0)])) rfl (hb hby at_1) _ ?_
    show Steps p.tables e below (s₁.setTop (mkF m 3 #[vI p0, vI p1, vI p2, vI p3, .unset, .unset, .unset, .unset, .unset, .unset, .unset] [(.int (2147483647 : Int32)), (.int p0)])) _
    refine XS.iand X0.here hx rfl (hb hby at_3) rfl ?_
    refine XS.iconst X0.here hx rfl (hb hby at_4) ?_
    show Steps p.tables e below (s₁.setTop (mkF m 5 #[vI p0, vI p1, vI p2, vI p3, .unset, .unset, .unset, .unset, .unset, .unset, .unset] [(.int (4 : Int32)), (.int (p0 &&& (2147483647 : Int32)))])) _
    refine iremM (g := (mkF m 5 #[vI p0, vI p1, vI p2, vI p3, .unset, .unset, .unset, .unset, .unset, .unset, .unset] [(.int (4 : Int32)), (.int (p0 &&& (2147483647 : Int32)))])) X0 hx rfl (hb hby at_5) rfl (by decide) ?_
    show Steps p.tables e below (s₁.setTop (mkF m 6 #[vI p0, vI p1, vI p2, vI p3, .unset, .unset, .unset, .unset, .unset, .unset, .unset] [(.int ((p0 &&& (2147483647 : Int32)) % (4 : Int32)))])) _
    rw [c_18]
    show Steps p.tables e below (s₁.setTop (mkF m 6 #[vI p0, vI p1, vI p2, vI p3, .unset, .unset, .unset, .unset, .unset, .unset, .unset] [(.int (0 : Int32))])) _
    refine XS.istore X0.here hx rfl (hb hby at_6) rfl (l' := #[vI p0, vI p1, vI p2, vI p3, vI (0 : Int32), .unset, .unset, .unset, .unset, .unset, .unset]) rfl ?_
    refine XS.iload X0.here hx rfl (hb hby at_8) rfl ?_
    show Steps p.tables e below (s₁.setTop (mkF m 10 #[vI p0, vI p1, vI p2, vI p3, vI (0 : Int32), .unset, .unset, .unset, .unset, .unset, .unset] [(.int (0 : Int32))])) _
    refine XS.iconst X0.here hx rfl (hb hby at_10) ?_
    refine XS.icmpYes X0.here hx rfl (pc0 := 11) (pc' := 148) rfl (hb hby at_11) rfl (feq (by decide : ¬ ((0 : Int32) = (3 : Int32)))).2 (by decide) (by decide) ?_
    show Steps p.tables e below (s₁.setTop (mkF m 148 #[vI p0, vI p1, vI p2, vI p3, vI (0 : Int32), .unset, .unset, .unset, .unset, .unset, .unset] [])) _
    refine XS.iload X0.here hx rfl (hb hby at_148) rfl ?_
    refine XS.ifNo X0.here hx rfl (hb hby at_150) rfl ((if0 _ _).trans (teq (by decide : (0 : Int32) = (0 : Int32))).2) ?_
    show Steps p.tables e below (s₁.setTop (mkF m 153 #[vI p0, vI p1, vI p2, vI p3, vI (0 : Int32), .unset, .unset, .unset, .unset, .unset, .unset] [])) _
    refine st21 _ ?_
    refine XS.goto X21.here hx rfl (pc0 := 155) (pc' := 171) rfl (hb hby at_155) (by decide) (by decide) ?_
    show Steps p.tables e below (T21.setTop (mkF m 171 #[vI p0, vI p1, vI p2, vI p3, vI (0 : Int32), .unset, .unset, .unset, .unset, .unset, .unset] [(.ref b21)])) _
    refine XS.astore X21.here hx rfl (hb hby at_171) rfl rfl (l' := #[vI p0, vI p1, vI p2, vI p3, vI (0 : Int32), .unset, vR b21, .unset, .unset, .unset, .unset]) rfl ?_
    refine XS.aload X21.here hx rfl (hb hby at_173) rfl rfl ?_
    show Steps p.tables e below (T21.setTop (mkF m 175 #[vI p0, vI p1, vI p2, vI p3, vI (0 : Int32), .unset, vR b21, .unset, .unset, .unset, .unset] [(.ref b21)])) _
    refine st25.trans ?_
    refine XS.istore X25.here hx rfl (hb hby at_178) rfl (l' := #[vI p0, vI p1, vI p2, vI p3, vI (0 : Int32), .unset, vR b21, vI (2 : Int32), .unset, .unset, .unset]) rfl ?_
    show Steps p.tables e below (T25.setTop (mkF m 180 #[vI p0, vI p1, vI p2, vI p3, vI (0 : Int32), .unset, vR b21, vI (2 : Int32), .unset, .unset, .unset] [])) _
    refine XS.iload X25.here hx rfl (hb hby at_180) rfl ?_
    refine XS.iconst X25.here hx rfl (hb hby at_182) ?_
    show Steps p.tables e below (T25.setTop (mkF m 183 #[vI p0, vI p1, vI p2, vI p3, vI (0 : Int32), .unset, vR b21, vI (2 : Int32), .unset, .unset, .unset] [(.int (1 : Int32)), (.int (2 : Int32))])) _
    refine XS.isub X25.here hx rfl (hb hby at_183) rfl ?_
    refine XS.iloadN X25.here hx rfl (hb hby at_184) rfl ?_
    show Steps p.tables e below (T25.setTop (mkF m 185 #[vI p0, vI p1, vI p2, vI p3, vI (0 : Int32), .unset, vR b21, vI (2 : Int32), .unset, .unset, .unset] [(.int p1), (.int (1 : Int32))])) _
    refine X25.ldcInt hx hown21 (mvT hZ21 (hw _ (List.mem_of_getElem? (i := 0) rfl))) (g := (mkF m 185 #[vI p0, vI p1, vI p2, vI p3, vI (0 : Int32), .unset, vR b21, vI (2 : Int32), .unset, .unset, .unset] [(.int p1), (.int (1 : Int32))])) rfl (hb hby at_185) _ ?_
    refine XS.iand X25.here hx rfl (hb hby at_187) rfl ?_
    show Steps p.tables e below (T25.setTop (mkF m 188 #[vI p0, vI p1, vI p2, vI p3, vI (0 : Int32), .unset, vR b21, vI (2 : Int32), .unset, .unset, .unset] [(.int (p1 &&& (2147483647 : Int32))), (.int (1 : Int32))])) _
    refine XS.iconst X25.here hx rfl (hb hby at_188) ?_
    refine iremM (g := (mkF m 189 #[vI p0, vI p1, vI p2, vI p3, vI (0 : Int32), .unset, vR b21, vI (2 : Int32), .unset, .unset, .unset] [(.int (3 : Int32)), (.int (p1 &&& (2147483647 : Int32))), (.int (1 : Int32))])) X25 hx rfl (hb hby at_189) rfl (by decide) ?_
    show Steps p.tables e below (T25.setTop (mkF m 190 #[vI p0, vI p1, vI p2, vI p3, vI (0 : Int32), .unset, vR b21, vI (2 : Int32), .unset, .unset, .unset] [(.int ((p1 &&& (2147483647 : Int32)) % (3 : Int32))), (.int (1 : Int32))])) _
    refine XS.iadd X25.here hx rfl (hb hby at_190) rfl ?_
    refine XS.istore X25.here hx rfl (hb hby at_191) rfl (l' := #[vI p0, vI p1, vI p2, vI p3, vI (0 : Int32), .unset, vR b21, vI (2 : Int32), vI ((1 : Int32) + ((p1 &&& (2147483647 : Int32)) % (3 : Int32))), .unset, .unset]) rfl ?_
    show Steps p.tables e below (T25.setTop (mkF m 193 #[vI p0, vI p1, vI p2, vI p3, vI (0 : Int32), .unset, vR b21, vI (2 : Int32), vI ((1 : Int32) + ((p1 &&& (2147483647 : Int32)) % (3 : Int32))), .unset, .unset] [])) _
    refine XS.iloadN X25.here hx rfl (hb hby at_193) rfl ?_
    refine X25.ldcInt hx hown21 (mvT hZ21 (hw _ (List.mem_of_getElem? (i := 0) rfl))) (g := (mkF m 194 #[vI p0, vI p1, vI p2, vI p3, vI (0 : Int32), .unset, vR b21, vI (2 : Int32), vI ((1 : Int32) + ((p1 &&& (2147483647 : Int32)) % (3 : Int32))), .unset, .unset] [(.int p2)])) rfl (hb hby at_194) _ ?_
    show Steps p.tables e below (T25.setTop (mkF m 196 #[vI p0, vI p1, vI p2, vI p3, vI (0 : Int32), .unset, vR b21, vI (2 : Int32), vI ((1 : Int32) + ((p1 &&& (2147483647 : Int32)) % (3 : Int32))), .unset, .unset] [(.int (2147483647 : Int32)), (.int p2)])) _
    refine XS.iand X25.here hx rfl (hb hby at_196) rfl ?_
    refine XS.iload X25.here hx rfl (hb hby at_197) rfl ?_
    show Steps p.tables e below (T25.setTop (mkF m 199 #[vI p0, vI p1, vI p2, vI p3, vI (0 : Int32), .unset, vR b21, vI (2 : Int32), vI ((1 : Int32) + ((p1 &&& (2147483647 : Int32)) % (3 : Int32))), .unset, .unset] [(.int (2 : Int32)), (.int (p2 &&& (2147483647 : Int32)))])) _
    refine XS.iconst X25.here hx rfl (hb hby at_199) ?_
    refine XS.iadd X25.here hx rfl (hb hby at_200) rfl ?_
    show Steps p.tables e below (T25.setTop (mkF m 201 #[vI p0, vI p1, vI p2, vI p3, vI (0 : Int32), .unset, vR b21, vI (2 : Int32), vI ((1 : Int32) + ((p1 &&& (2147483647 : Int32)) % (3 : Int32))), .unset, .unset] [(.int (4 : Int32)), (.int (p2 &&& (2147483647 : Int32)))])) _
    refine iremM (g := (mkF m 201 #[vI p0, vI p1, vI p2, vI p3, vI (0 : Int32), .unset, vR b21, vI (2 : Int32), vI ((1 : Int32) + ((p1 &&& (2147483647 : Int32)) % (3 : Int32))), .unset, .unset] [(.int (4 : Int32)), (.int (p2 &&& (2147483647 : Int32)))])) X25 hx rfl (hb hby at_201) rfl (by decide) ?_
    show Steps p.tables e below (T25.setTop (mkF m 202 #[vI p0, vI p1, vI p2, vI p3, vI (0 : Int32), .unset, vR b21, vI (2 : Int32), vI ((1 : Int32) + ((p1 &&& (2147483647 : Int32)) % (3 : Int32))), .unset, .unset] [(.int ((p2 &&& (2147483647 : Int32)) % (4 : Int32)))])) _
    rw [c_19]
    show Steps p.tables e below (T25.setTop (mkF m 202 #[vI p0, vI p1, vI p2, vI p3, vI (0 : Int32), .unset, vR b21, vI (2 : Int32), vI ((1 : Int32) + ((p1 &&& (2147483647 : Int32)) % (3 : Int32))), .unset, .unset] [(.int pp)])) _
    refine XS.istore X25.here hx rfl (hb hby at_202) rfl (l' := #[vI p0, vI p1, vI p2, vI p3, vI (0 : Int32), .unset, vR b21, vI (2 : Int32), vI ((1 : Int32) + ((p1 &&& (2147483647 : Int32)) % (3 : Int32))), vI pp, .unset]) rfl ?_
    refine XS.iloadN X25.here hx rfl (hb hby at_204) rfl ?_
    show Steps p.tables e below (T25.setTop (mkF m 205 #[vI p0, vI p1, vI p2, vI p3, vI (0 : Int32), .unset, vR b21, vI (2 : Int32), vI ((1 : Int32) + ((p1 &&& (2147483647 : Int32)) % (3 : Int32))), vI pp, .unset] [(.int p3)])) _
    refine XS.sipush X25.here hx rfl (hb hby at_205) ?_
    refine XS.iand X25.here hx rfl (hb hby at_208) rfl ?_
    show Steps p.tables e below (T25.setTop (mkF m 209 #[vI p0, vI p1, vI p2, vI p3, vI (0 : Int32), .unset, vR b21, vI (2 : Int32), vI ((1 : Int32) + ((p1 &&& (2147483647 : Int32)) % (3 : Int32))), vI pp, .unset] [(.int (p3 &&& (255 : Int32)))])) _
    refine XS.i2c X25.here hx rfl (hb hby at_209) rfl ?_
    show Steps p.tables e below (T25.setTop (mkF m 210 #[vI p0, vI p1, vI p2, vI p3, vI (0 : Int32), .unset, vR b21, vI (2 : Int32), vI ((1 : Int32) + ((p1 &&& (2147483647 : Int32)) % (3 : Int32))), vI pp, .unset] [(.int ((p3 &&& (255 : Int32)).toUInt32.toUInt16.toUInt32.toInt32))])) _
    rw [c_20]
    show Steps p.tables e below (T25.setTop (mkF m 210 #[vI p0, vI p1, vI p2, vI p3, vI (0 : Int32), .unset, vR b21, vI (2 : Int32), vI ((1 : Int32) + ((p1 &&& (2147483647 : Int32)) % (3 : Int32))), vI pp, .unset] [(.int c3)])) _
    refine XS.istore X25.here hx rfl (hb hby at_210) rfl (l' := #[vI p0, vI p1, vI p2, vI p3, vI (0 : Int32), .unset, vR b21, vI (2 : Int32), vI ((1 : Int32) + ((p1 &&& (2147483647 : Int32)) % (3 : Int32))), vI pp, vI c3]) rfl ?_
    refine XS.aload X25.here hx rfl (hb hby at_212) rfl rfl ?_
    show Steps p.tables e below (T25.setTop (mkF m 214 #[vI p0, vI p1, vI p2, vI p3, vI (0 : Int32), .unset, vR b21, vI (2 : Int32), vI ((1 : Int32) + ((p1 &&& (2147483647 : Int32)) % (3 : Int32))), vI pp, vI c3] [(.ref b21)])) _
    refine XS.iload X25.here hx rfl (hb hby at_214) rfl ?_
    refine XS.iload X25.here hx rfl (hb hby at_216) rfl ?_
    show Steps p.tables e below (T25.setTop (mkF m 218 #[vI p0, vI p1, vI p2, vI p3, vI (0 : Int32), .unset, vR b21, vI (2 : Int32), vI ((1 : Int32) + ((p1 &&& (2147483647 : Int32)) % (3 : Int32))), vI pp, vI c3] [(.int pp), (.int ((1 : Int32) + ((p1 &&& (2147483647 : Int32)) % (3 : Int32)))), (.ref b21)])) _
    refine XS.iload X25.here hx rfl (hb hby at_218) rfl ?_
    refine st27 _ ?_
    show Steps p.tables e below (T27.setTop (mkF m 223 #[vI p0, vI p1, vI p2, vI p3, vI (0 : Int32), .unset, vR b21, vI (2 : Int32), vI ((1 : Int32) + ((p1 &&& (2147483647 : Int32)) % (3 : Int32))), vI pp, vI c3] [(.ref b_27)])) _
    refine XS.astore X27.here hx rfl (hb hby at_223) rfl rfl (l' := #[vI p0, vI p1, vI p2, vI p3, vI (0 : Int32), vR b_27, vR b21, vI (2 : Int32), vI ((1 : Int32) + ((p1 &&& (2147483647 : Int32)) % (3 : Int32))), vI pp, vI c3]) rfl ?_
    refine XS.aload X27.here hx rfl (hb hby at_225) rfl rfl ?_
    show Steps p.tables e below (T27.setTop (mkF m 227 #[vI p0, vI p1, vI p2, vI p3, vI (0 : Int32), vR b_27, vR b21, vI (2 : Int32), vI ((1 : Int32) + ((p1 &&& (2147483647 : Int32)) % (3 : Int32))), vI pp, vI c3] [(.ref b_27)])) _
    refine st31 _ ?_
    refine XS.aload X31.here hx rfl (hb hby at_230) rfl rfl ?_
    show Steps p.tables e below (T31.setTop (mkF m 232 #[vI p0, vI p1, vI p2, vI p3, vI (0 : Int32), vR b_27, vR b21, vI (2 : Int32), vI ((1 : Int32) + ((p1 &&& (2147483647 : Int32)) % (3 : Int32))), vI pp, vI c3] [(.ref b_27), (own_db cs_out_27 w_H2 w_POSTGRESQL w_MARIADB)])) _
    refine st35.trans ?_
    refine Jvm.RoadKit.acmp (g := (mkF m 235 #[vI p0, vI p1, vI p2, vI p3, vI (0 : Int32), vR b_27, vR b21, vI (2 : Int32), vI ((1 : Int32) + ((p1 &&& (2147483647 : Int32)) % (3 : Int32))), vI pp, vI c3] [(own_db cs_out_27 w_H2 w_POSTGRESQL w_MARIADB), (own_db cs_out_27 w_H2 w_POSTGRESQL w_MARIADB)])) X35 hx rfl (own_dbR _ _ _ _) (own_dbR _ _ _ _) (pc0 := 235) (pc' := 238) (same := true) rfl (hb hby at_235) rfl (decide_eq_true rfl) (by decide) (by decide) ?_
    show Steps p.tables e below (T35.setTop (mkF m 238 #[vI p0, vI p1, vI p2, vI p3, vI (0 : Int32), vR b_27, vR b21, vI (2 : Int32), vI ((1 : Int32) + ((p1 &&& (2147483647 : Int32)) % (3 : Int32))), vI pp, vI c3] [])) _
    refine XS.iconst X35.here hx rfl (hb hby at_238) ?_
    refine XS.goto X35.here hx rfl (pc0 := 239) (pc' := 243) rfl (hb hby at_239) (by decide) (by decide) ?_
    show Steps p.tables e below (T35.setTop (mkF m 243 #[vI p0, vI p1, vI p2, vI p3, vI (0 : Int32), vR b_27, vR b21, vI (2 : Int32), vI ((1 : Int32) + ((p1 &&& (2147483647 : Int32)) % (3 : Int32))), vI pp, vI c3] [(.int (1 : Int32))])) _
    exact retN X35 hx (t := .boolean) Bd.returns (by simp) (hb hby at_243) hr
  · show Q0k0 Z w_VALUES k_VALUES w_H2 w_POSTGRESQL w_MARIADB w_COMPACT_STRINGS w_SIOOBE_FORMATTER pv_H2 pv_POSTGRESQL pv_MARIADB pp c3 p0 p1 p2 p3 h0 n0 _ T35.heap _
    exact ⟨rfl, N35⟩
def Q0k1 (Z : State) (w_VALUES : Addr) (k_VALUES : ClassId) (w_H2 : Addr) (w_POSTGRESQL : Addr) (w_MARIADB : Addr) (w_COMPACT_STRINGS : Int32) (w_SIOOBE_FORMATTER : Value) (pv_H2 : Addr) (pv_POSTGRESQL : Addr) (pv_MARIADB : Addr) (pp : Int32) (c3 : Int32) (p0 : Int32) (p1 : Int32) (p2 : Int32) (p3 : Int32) (h0 : Heap) (n0 : Nat) (v : Option Value) (h : Heap) (L : List Loc) : Prop := v = some (.int (1 : Int32)) ∧ Fr n0 L
set_option maxRecDepth 65536 in
set_option maxHeartbeats 40000000 in
theorem rm0k1 (l : Launch) (Z : State) (A0 : Array Value) (hw : ∀ d ∈ tables_1, d.before A0 Z = true) (ws : List Jvm.Cond) (w_VALUES : Addr) (k_VALUES : ClassId) (w_H2 : Addr) (w_POSTGRESQL : Addr) (w_MARIADB : Addr) (w_COMPACT_STRINGS : Int32) (w_SIOOBE_FORMATTER : Value) (pv_H2 : Addr) (pv_POSTGRESQL : Addr) (pv_MARIADB : Addr) (pp : Int32) (c3 : Int32) (p0 : Int32) (p1 : Int32) (p2 : Int32) (p3 : Int32) (h0 : Heap) (n0 : Nat) (OLD : Old Z n0 h0) (f_1 : Sta Z Z.heap "com/example/seshat/seshat/jpql/Database" "$VALUES" "[Lcom/example/seshat/seshat/jpql/Database;" (.ref w_VALUES)) (f_2 : Exa Z Z.heap w_VALUES "[Lcom/example/seshat/seshat/jpql/Database;") (f_3 : Arv Z Z.heap w_VALUES k_VALUES (.object "com/example/seshat/seshat/jpql/Database") (3 : Int32) [(.ref w_H2), (.ref w_POSTGRESQL), (.ref w_MARIADB)] .null) (f_4 : Sta Z Z.heap "java/lang/String" "COMPACT_STRINGS" "Z" (.int w_COMPACT_STRINGS)) (c_5 : ¬ (w_COMPACT_STRINGS = (0 : Int32))) (f_6 : Sta Z Z.heap "jdk/internal/util/Preconditions" "SIOOBE_FORMATTER" "Ljava/util/function/BiFunction;" w_SIOOBE_FORMATTER) (c_7 : w_SIOOBE_FORMATTER.isRef = true) (f_8 : Fld Z Z.heap w_H2 "com/example/seshat/seshat/jpql/Database" "propertyValue" "Ljava/lang/String;" (.ref pv_H2)) (f_9 : Fld Z Z.heap w_POSTGRESQL "com/example/seshat/seshat/jpql/Database" "propertyValue" "Ljava/lang/String;" (.ref pv_POSTGRESQL)) (f_10 : Fld Z Z.heap w_MARIADB "com/example/seshat/seshat/jpql/Database" "propertyValue" "Ljava/lang/String;" (.ref pv_MARIADB)) (f_11 : own_Txt Z Z.heap pv_H2 ([104, 50] : List Int32)) (f_12 : own_Txt Z Z.heap pv_POSTGRESQL ([112, 111, 115, 116, 103, 114, 101, 115, 113, 108] : List Int32)) (f_13 : own_Txt Z Z.heap pv_MARIADB ([109, 97, 114, 105, 97, 100, 98] : List Int32)) (f_14 : Sta Z Z.heap "com/example/seshat/seshat/jpql/Database" "H2" "Lcom/example/seshat/seshat/jpql/Database;" (.ref w_H2)) (f_15 : Sta Z Z.heap "com/example/seshat/seshat/jpql/Database" "POSTGRESQL" "Lcom/example/seshat/seshat/jpql/Database;" (.ref w_POSTGRESQL)) (f_16 : Sta Z Z.heap "com/example/seshat/seshat/jpql/Database" "MARIADB" "Lcom/example/seshat/seshat/jpql/Database;" (.ref w_MARIADB)) (c_17 : own_B c3) (c_18 : ((p0 &&& (2147483647 : Int32)) % (4 : Int32)) = (1 : Int32)) (c_19 : ((p2 &&& (2147483647 : Int32)) % (12 : Int32)) = pp) (c_20 : ((p3 &&& (255 : Int32)).toUInt32.toUInt16.toUInt32.toInt32) = c3) (c_26 : own_lens ((9 : Int32) + ((p1 &&& (2147483647 : Int32)) % (3 : Int32)))) :
    MetFree l x (head1 (Jvm.Cond.code x code maxLocals ret :: ws) room_1) (fun a U => a = #[(.int p0), (.int p1), (.int p2), (.int p3)] ∧ Z.Warmed39 U.vm ∧ U.heap = h0 ∧ CHv Z consts_1 U.vm h0) (fun _ _ _ _ _ => True) (fun _ U o U' => ∃ v L, o = .returned v ∧ Q0k1 Z w_VALUES k_VALUES w_H2 w_POSTGRESQL w_MARIADB w_COMPACT_STRINGS w_SIOOBE_FORMATTER pv_H2 pv_POSTGRESQL pv_MARIADB pp c3 p0 p1 p2 p3 h0 n0 v U'.heap L ∧ CHr Z consts_1 U.vm U.heap U'.vm U'.heap ∧ ReturnedEndW U o U' L room_1.cells room_1.slots) := by
  refine MetFree.of_bodySF (plainFor_of_name pn_com_example_seshat_seshat_jpql_DatabaseNamedPinLaw) hisR ?_
  intro p e s m args below meth c s₁ Bd hml0 hP hK
  obtain ⟨rfl, hZ, hh, hCH⟩ := hP
  have hx := Bd.exec
  have hby := Bd.bytes
  have hml : c.maxLocals = 11 := hml0
  have hown : s.vm.findClass "com/example/seshat/seshat/jpql/DatabaseNamedPinLaw" = some m.cls := findClass_of_methodNamed Bd.named
  have hnm := (name_of_methodNamed Bd.named Bd.method).1
  have X0 : Stand p l e room_1 (s.setVm s.vm) m #[(.int p0), (.int p1), (.int p2), (.int p3)] below meth c s₁ [] 0 0 := Stand.of_body Bd
  have e0 : s₁.heap = h0 := by rw [← hh, Bd.state]; rfl
  have hS0 : s.Since s.vm h0.size := (State.WarmedH.refl s).since _
  have hk0 : h0.size ≤ h0.size := Nat.le_refl _
  have hZ : Z.Warmed39 (s.setVm s.vm).vm := hZ
  have hown : (s.setVm s.vm).vm.findClass "com/example/seshat/seshat/jpql/DatabaseNamedPinLaw" = some m.cls := hown
  have CH0 : CHr Z consts_1 (s.setVm s.vm).vm h0 (s.setVm s.vm).vm h0 := CHr.refl hCH
  have N0 := Fr.nil n0
  have pre0 : ∀ t, Steps p.tables e below (s₁.setTop (mkF m 0 #[vI p0, vI p1, vI p2, vI p3, .unset, .unset, .unset, .unset, .unset, .unset, .unset] [])) t → Steps p.tables e below (s₁.setTop (entryFrame m #[(.int p0), (.int p1), (.int p2), (.int p3)] maxLocals)) t := fun t k => castTop (ef_0 m p0 p1 p2 p3) k
  obtain ⟨b21, T21, h21, k21, d21, kd21, X21, e21, E21, hS21, hk21, hZ21, hown21, A21, Fc21, Fv21, V21, la21, lb21, C21, -, sn21, st21⟩ := ldcCH (s := s) (EL := consts_1) X0 hx hZ hown (hw _ (List.mem_of_getElem? (i := 104) rfl)) (own_strs hw) e0 hS0 hk0 (own_EW hw) (by decide) CH0.1 (vs := [(.int (112 : Int32)), (.int (111 : Int32)), (.int (115 : Int32)), (.int (116 : Int32)), (.int (103 : Int32)), (.int (114 : Int32)), (.int (101 : Int32)), (.int (115 : Int32)), (.int (113 : Int32)), (.int (108 : Int32))]) (z := (10 : Int32)) ⟨by decide, by decide⟩ (by decide) (by decide) (g := (mkF m 164 #[vI p0, vI p1, vI p2, vI p3, vI (1 : Int32), .unset, .unset, .unset, .unset, .unset, .unset] [])) rfl (hb hby at_164) (n := 40) (by decide) (by decide) (by decide) (by decide)
  have K_22 : Keep h0 h21 [] := (Keep.refl h0 []).ext E21
  have CH_23 := CH0.trans C21
  have O_24 := Old.ext OLD E21
  obtain ⟨cq25, kq25, q25a, q25b, q25c⟩ := isOf hZ21 e21 A21
  obtain ⟨_, _, ⟨T25, L25, k25, n25⟩, -, X25, ⟨Lc25, hQ25, l25, y25, z25⟩, st25⟩ := X21.virtualBack hx (y := (⟨"java/lang/String", "length", "()I"⟩ : MethodName)) (z := (⟨"java/lang/String", "length", "()I"⟩ : MethodName)) hown21 (mvT hZ21 (hw _ (List.mem_of_getElem? (i := 9) rfl))) (mvT hZ21 (hw _ (List.mem_of_getElem? (i := 10) rfl))) (notFace_of_selects (args := #[]) (mvT hZ21 (hw _ (List.mem_of_getElem? (i := 12) rfl)))) (mvT hZ21 (hw _ (List.mem_of_getElem? (i := 12) rfl))) (mvT hZ21 (hw _ (List.mem_of_getElem? (i := 11) rfl))) (by decide) (own_lenB (W := 0) (N := (10 : Int32)) hZ21 hw O_24 f_4 c_5 (own_txtK (cs := ([112, 111, 115, 116, 103, 114, 101, 115, 113, 108] : List Int32)) A21 Fv21 Fc21 V21 rfl rfl (by decide) (by decide)) rfl (by decide) (by decide)) q25a q25c (g := (mkF m 175 #[vI p0, vI p1, vI p2, vI p3, vI (1 : Int32), .unset, vR b21, .unset, .unset, .unset, .unset] [(.ref b21)])) rfl (by rw [hml]; rfl) (Steps.refl _) (argsL := []) (rest := []) (lenOf pd_0 rfl) rfl (by show 2 * 0 + _ ≤ _; exact Nat.le_of_eq rfl) (hb hby at_175) (fun _ _ => ⟨rfl, e21, (by decide : 2 + 0 ≤ _), (by decide : 44 + 0 ≤ _)⟩)
  dsimp only [Pt.U, Pt.locs, Pt.cells, Pt.slots] at X25 l25 y25 z25 st25 hQ25
  subst l25 y25 z25
  obtain ⟨rfl, N25q, e25⟩ := hQ25
  have N25 := Fr.app N0 N25q
  obtain ⟨_, _, ⟨T27, L27, k27, n27⟩, -, X27, ⟨Lc27, hQ27, l27, y27, z27⟩, st27⟩ := Jvm.LawKit.callS X25 hx (y := (⟨"com/example/seshat/seshat/jpql/DatabaseNamedPinLaw", "word", "(Ljava/lang/String;IIC)Ljava/lang/String;"⟩ : MethodName)) hown21 (mvT hZ21 (hw _ (List.mem_of_getElem? (i := 22) rfl))) (mvT hZ21 (hw _ (List.mem_of_getElem? (i := 23) rfl))) (mvT hZ21 (hw _ (List.mem_of_getElem? (i := 24) rfl))) (mvT hZ21 (hw _ (List.mem_of_getElem? (i := 25) rfl))) (by decide) (backOf (W := 0) (rm3 l Z A0 hw [] ((9 : Int32) + ((p1 &&& (2147483647 : Int32)) % (3 : Int32))) ([112, 111, 115, 116, 103, 114, 101, 115, 113, 108] : List Int32) w_COMPACT_STRINGS w_SIOOBE_FORMATTER b21 pp c3 h21 n0 O_24 (own_txtK (cs := ([112, 111, 115, 116, 103, 114, 101, 115, 113, 108] : List Int32)) A21 Fv21 Fc21 V21 rfl rfl (by decide) (by decide)) c_17 f_4 c_5 f_6 c_7 c_26) hZ21 (hw _ (List.mem_of_getElem? (i := 25) rfl)) (hw _ (List.mem_of_getElem? (i := 24) rfl)) (by decide) (by decide)) (g := (mkF m 220 #[vI p0, vI p1, vI p2, vI p3, vI (1 : Int32), .unset, vR b21, vI (10 : Int32), vI ((9 : Int32) + ((p1 &&& (2147483647 : Int32)) % (3 : Int32))), vI pp, vI c3] [(.int c3), (.int pp), (.int ((9 : Int32) + ((p1 &&& (2147483647 : Int32)) % (3 : Int32)))), (.ref b21)])) rfl (by rw [hml]; rfl) (argsL := [(.ref b21), (.int ((9 : Int32) + ((p1 &&& (2147483647 : Int32)) % (3 : Int32)))), (.int pp), (.int c3)]) (rest := []) (lenOf pd_11 rfl) rfl (by show 2 * 0 + _ ≤ _; exact Nat.le_of_eq rfl) (hb hby at_220) (fun _ _ => ⟨rfl, e25, (by decide : 2 + 3 ≤ _), (by decide : 44 + 40 ≤ _)⟩)
  dsimp only [Pt.U, Pt.locs, Pt.cells, Pt.slots] at X27 l27 y27 z27 st27 hQ27
  subst l27 y27 z27
  obtain ⟨b_27, cs_out_27, rfl, N27q, K27, g27_0, g27_1⟩ := hQ27
  have N27 := Fr.app N25 N27q
  have K_28 : Keep h0 T27.heap [] := Keep.trans K_22 K27 all0
  have CH_29 := CH_23.trans (CHr.keep K27 sf0 CH_23.1)
  have O_30 := Old.keep O_24 K27 all0
  obtain ⟨_, _, ⟨T31, L31, k31, n31⟩, -, X31, ⟨Lc31, hQ31, l31, y31, z31⟩, st31⟩ := Jvm.LawKit.callS X27 hx (y := (⟨"com/example/seshat/seshat/jpql/Database", "named", "(Ljava/lang/String;)Lcom/example/seshat/seshat/jpql/Database;"⟩ : MethodName)) hown21 (mvT hZ21 (hw _ (List.mem_of_getElem? (i := 68) rfl))) (mvT hZ21 (hw _ (List.mem_of_getElem? (i := 69) rfl))) (mvT hZ21 (hw _ (List.mem_of_getElem? (i := 70) rfl))) (mvT hZ21 (hw _ (List.mem_of_getElem? (i := 71) rfl))) (by decide) (backOf (W := 0) (rm15 l Z A0 hw [] w_VALUES k_VALUES w_H2 w_POSTGRESQL w_MARIADB cs_out_27 w_COMPACT_STRINGS pv_H2 pv_POSTGRESQL pv_MARIADB b_27 T27.heap n0 O_30 f_1 f_2 f_3 g27_1 f_4 c_5 f_8 f_9 f_10 f_11 f_12 f_13) hZ21 (hw _ (List.mem_of_getElem? (i := 71) rfl)) (hw _ (List.mem_of_getElem? (i := 70) rfl)) (by decide) (by decide)) (g := (mkF m 227 #[vI p0, vI p1, vI p2, vI p3, vI (1 : Int32), vR b_27, vR b21, vI (10 : Int32), vI ((9 : Int32) + ((p1 &&& (2147483647 : Int32)) % (3 : Int32))), vI pp, vI c3] [(.ref b_27)])) rfl (by rw [hml]; rfl) (argsL := [(.ref b_27)]) (rest := []) (lenOf pd_12 rfl) rfl (by show 2 * 0 + _ ≤ _; exact Nat.le_of_eq rfl) (hb hby at_227) (fun _ _ => ⟨rfl, rfl, (by decide : 5 + 1 ≤ _), (by decide : 84 + 3 ≤ _)⟩)
  dsimp only [Pt.U, Pt.locs, Pt.cells, Pt.slots] at X31 l31 y31 z31 st31 hQ31
  subst l31 y31 z31
  obtain ⟨rfl, N31q, K31⟩ := hQ31
  have N31 := Fr.app N27 N31q
  have K_32 : Keep h0 T31.heap [] := Keep.trans K_28 K31 all0
  have CH_33 := CH_29.trans (CHr.keep K31 sf0 CH_29.1)
  have f_34 := g27_1.keep0 K31
  have O_36 := Old.keep O_30 K31 all0
  obtain ⟨_, _, ⟨T35, L35, k35, n35⟩, -, X35, hS35q, hg35q, ⟨Lc35, hQ35, l35, y35, z35, C35⟩, st35⟩ := callSS X31 hx (y := (⟨"com/example/seshat/seshat/jpql/DatabaseNamedPinLaw", "expected", "(Ljava/lang/String;)Lcom/example/seshat/seshat/jpql/Database;"⟩ : MethodName)) hown21 (mvT hZ21 (hw _ (List.mem_of_getElem? (i := 100) rfl))) (mvT hZ21 (hw _ (List.mem_of_getElem? (i := 101) rfl))) (mvT hZ21 (hw _ (List.mem_of_getElem? (i := 24) rfl))) (mvT hZ21 (hw _ (List.mem_of_getElem? (i := 102) rfl))) (by decide) (backOfSH (W := 1) (rm19 l Z A0 hw [] cs_out_27 w_COMPACT_STRINGS w_H2 w_POSTGRESQL w_MARIADB b_27 T31.heap n0 O_36 f_34 f_4 c_5 f_14 f_15 f_16) hZ21 (hw _ (List.mem_of_getElem? (i := 102) rfl)) (hw _ (List.mem_of_getElem? (i := 24) rfl)) (by decide) (by decide) (own_EW hw) CH_33.1) (g := (mkF m 232 #[vI p0, vI p1, vI p2, vI p3, vI (1 : Int32), vR b_27, vR b21, vI (10 : Int32), vI ((9 : Int32) + ((p1 &&& (2147483647 : Int32)) % (3 : Int32))), vI pp, vI c3] [(.ref b_27), (own_db cs_out_27 w_H2 w_POSTGRESQL w_MARIADB)])) rfl (by rw [hml]; rfl) (argsL := [(.ref b_27)]) (rest := [(own_db cs_out_27 w_H2 w_POSTGRESQL w_MARIADB)]) (lenOf pd_12 rfl) rfl (by show 2 * 0 + _ ≤ _; simp [own_dbC]) (hb hby at_232) (fun _ _ => ⟨rfl, rfl, (by decide : 6 + 6 ≤ _), (by decide : 87 + 100 ≤ _)⟩)
  dsimp only [Pt.U, Pt.locs, Pt.cells, Pt.slots] at X35 l35 y35 z35 st35 hQ35
  subst l35 y35 z35
  dsimp only [Pt.U, Pt.locs, Pt.cells, Pt.slots] at hS35q hg35q
  have hS35 := foldS (T := T31) hS21 (Nat.le_trans (Nat.le_trans hk21 K27.1) K31.1) hS35q hg35q
  have hZ35 : Z.Warmed39 (s.setVm T35.vm).vm := State.Warmed39.trans (t := s.setVm _) hZ21 hS35q.1
  have hown35 : (s.setVm T35.vm).vm.findClass "com/example/seshat/seshat/jpql/DatabaseNamedPinLaw" = some m.cls := by rw [show (s.setVm T35.vm).vm = T35.vm from rfl, hS35q.1.alike.findClass]; exact hown21
  have X35 : Stand p l e room_1 (s.setVm T35.vm) m _ below meth c T35 _ _ _ := X35
  dsimp only [Pt.U] at C35
  obtain ⟨rfl, N35q, K35⟩ := hQ35
  have N35 := Fr.app N31 N35q
  have K_37 : Keep h0 T35.heap [] := Keep.trans K_32 K35 all0
  have CH_38 := CH_33.trans C35
  obtain ⟨fs, hr, hrun, hended, hRW⟩ := X35.leaveW (s := s) hS35 (Nat.le_refl _) (v := some (.int (1 : Int32))) (fun h => by rw [Bd.returns] at h; cases h)
  refine ⟨_, _, pre0 _ ?_, hrun, hended, _, _, rfl, ?_, (by have q := CH_38.trans (CHv.at X35 hZ35 (own_EW hw) CH_38.1); rw [hh]; show CHr Z consts_1 s.vm h0 T35.vm T35.heap; exact q), hRW.1, hRW.2.1, hRW.2.2.1, hRW.2.2.2.mono (by decide) (by decide)⟩
  · show Steps p.tables e below (s₁.setTop (mkF m 0 #[vI p0, vI p1, vI p2, vI p3, .unset, .unset, .unset, .unset, .unset, .unset, .unset] [])) _
    refine XS.iloadN X0.here hx rfl (hb hby at_0) rfl ?_
    refine X0.ldcInt hx hown (mvT hZ (hw _ (List.mem_of_getElem? (i := 0) rfl))) (g := (mkF m 1 #[vI p0, vI p1, vI p2, vI p3, .unset, .unset, .unset, .unset, .unset, .unset, .unset] [(.int p0)])) rfl (hb hby at_1) _ ?_
    show Steps p.tables e below (s₁.setTop (mkF m 3 #[vI p0, vI p1, vI p2, vI p3, .unset, .unset, .unset, .unset, .unset, .unset, .unset] [(.int (2147483647 : Int32)), (.int p0)])) _
    refine XS.iand X0.here hx rfl (hb hby at_3) rfl ?_
    refine XS.iconst X0.here hx rfl (hb hby at_4) ?_
    show Steps p.tables e below (s₁.setTop (mkF m 5 #[vI p0, vI p1, vI p2, vI p3, .unset, .unset, .unset, .unset, .unset, .unset, .unset] [(.int (4 : Int32)), (.int (p0 &&& (2147483647 : Int32)))])) _
    refine iremM (g := (mkF m 5 #[vI p0, vI p1, vI p2, vI p3, .unset, .unset, .unset, .unset, .unset, .unset, .unset] [(.int (4 : Int32)), (.int (p0 &&& (2147483647 : Int32)))])) X0 hx rfl (hb hby at_5) rfl (by decide) ?_
    show Steps p.tables e below (s₁.setTop (mkF m 6 #[vI p0, vI p1, vI p2, vI p3, .unset, .unset, .unset, .unset, .unset, .unset, .unset] [(.int ((p0 &&& (2147483647 : Int32)) % (4 : Int32)))])) _
    rw [c_18]
    show Steps p.tables e below (s₁.setTop (mkF m 6 #[vI p0, vI p1, vI p2, vI p3, .unset, .unset, .unset, .unset, .unset, .unset, .unset] [(.int (1 : Int32))])) _
    refine XS.istore X0.here hx rfl (hb hby at_6) rfl (l' := #[vI p0, vI p1, vI p2, vI p3, vI (1 : Int32), .unset, .unset, .unset, .unset, .unset, .unset]) rfl ?_
    refine XS.iload X0.here hx rfl (hb hby at_8) rfl ?_
    show Steps p.tables e below (s₁.setTop (mkF m 10 #[vI p0, vI p1, vI p2, vI p3, vI (1 : Int32), .unset, .unset, .unset, .unset, .unset, .unset] [(.int (1 : Int32))])) _
    refine XS.iconst X0.here hx rfl (hb hby at_10) ?_
    refine XS.icmpYes X0.here hx rfl (pc0 := 11) (pc' := 148) rfl (hb hby at_11) rfl (feq (by decide : ¬ ((1 : Int32) = (3 : Int32)))).2 (by decide) (by decide) ?_
    show Steps p.tables e below (s₁.setTop (mkF m 148 #[vI p0, vI p1, vI p2, vI p3, vI (1 : Int32), .unset, .unset, .unset, .unset, .unset, .unset] [])) _
    refine XS.iload X0.here hx rfl (hb hby at_148) rfl ?_
    refine XS.ifYes X0.here hx rfl (pc0 := 150) (pc' := 158) rfl (hb hby at_150) rfl ((if0 _ _).trans (feq (by decide : ¬ ((1 : Int32) = (0 : Int32)))).2) (by decide) (by decide) ?_
    show Steps p.tables e below (s₁.setTop (mkF m 158 #[vI p0, vI p1, vI p2, vI p3, vI (1 : Int32), .unset, .unset, .unset, .unset, .unset, .unset] [])) _
    refine XS.iload X0.here hx rfl (hb hby at_158) rfl ?_
    refine XS.iconst X0.here hx rfl (hb hby at_160) ?_
    show Steps p.tables e below (s₁.setTop (mkF m 161 #[vI p0, vI p1, vI p2, vI p3, vI (1 : Int32), .unset, .unset, .unset, .unset, .unset, .unset] [(.int (1 : Int32)), (.int (1 : Int32))])) _
    refine XS.icmpNo X0.here hx rfl (hb hby at_161) rfl (teq (by decide : (1 : Int32) = (1 : Int32))).2 ?_
    refine st21 _ ?_
    show Steps p.tables e below (T21.setTop (mkF m 166 #[vI p0, vI p1, vI p2, vI p3, vI (1 : Int32), .unset, .unset, .unset, .unset, .unset, .unset] [(.ref b21)])) _
    refine XS.goto X21.here hx rfl (pc0 := 166) (pc' := 171) rfl (hb hby at_166) (by decide) (by decide) ?_
    refine XS.astore X21.here hx rfl (hb hby at_171) rfl rfl (l' := #[vI p0, vI p1, vI p2, vI p3, vI (1 : Int32), .unset, vR b21, .unset, .unset, .unset, .unset]) rfl ?_
    show Steps p.tables e below (T21.setTop (mkF m 173 #[vI p0, vI p1, vI p2, vI p3, vI (1 : Int32), .unset, vR b21, .unset, .unset, .unset, .unset] [])) _
    refine XS.aload X21.here hx rfl (hb hby at_173) rfl rfl ?_
    refine st25.trans ?_
    show Steps p.tables e below (T25.setTop (mkF m 178 #[vI p0, vI p1, vI p2, vI p3, vI (1 : Int32), .unset, vR b21, .unset, .unset, .unset, .unset] [(.int (10 : Int32))])) _
    refine XS.istore X25.here hx rfl (hb hby at_178) rfl (l' := #[vI p0, vI p1, vI p2, vI p3, vI (1 : Int32), .unset, vR b21, vI (10 : Int32), .unset, .unset, .unset]) rfl ?_
    refine XS.iload X25.here hx rfl (hb hby at_180) rfl ?_
    show Steps p.tables e below (T25.setTop (mkF m 182 #[vI p0, vI p1, vI p2, vI p3, vI (1 : Int32), .unset, vR b21, vI (10 : Int32), .unset, .unset, .unset] [(.int (10 : Int32))])) _
    refine XS.iconst X25.here hx rfl (hb hby at_182) ?_
    refine XS.isub X25.here hx rfl (hb hby at_183) rfl ?_
    show Steps p.tables e below (T25.setTop (mkF m 184 #[vI p0, vI p1, vI p2, vI p3, vI (1 : Int32), .unset, vR b21, vI (10 : Int32), .unset, .unset, .unset] [(.int (9 : Int32))])) _
    refine XS.iloadN X25.here hx rfl (hb hby at_184) rfl ?_
    refine X25.ldcInt hx hown21 (mvT hZ21 (hw _ (List.mem_of_getElem? (i := 0) rfl))) (g := (mkF m 185 #[vI p0, vI p1, vI p2, vI p3, vI (1 : Int32), .unset, vR b21, vI (10 : Int32), .unset, .unset, .unset] [(.int p1), (.int (9 : Int32))])) rfl (hb hby at_185) _ ?_
    show Steps p.tables e below (T25.setTop (mkF m 187 #[vI p0, vI p1, vI p2, vI p3, vI (1 : Int32), .unset, vR b21, vI (10 : Int32), .unset, .unset, .unset] [(.int (2147483647 : Int32)), (.int p1), (.int (9 : Int32))])) _
    refine XS.iand X25.here hx rfl (hb hby at_187) rfl ?_
    refine XS.iconst X25.here hx rfl (hb hby at_188) ?_
    show Steps p.tables e below (T25.setTop (mkF m 189 #[vI p0, vI p1, vI p2, vI p3, vI (1 : Int32), .unset, vR b21, vI (10 : Int32), .unset, .unset, .unset] [(.int (3 : Int32)), (.int (p1 &&& (2147483647 : Int32))), (.int (9 : Int32))])) _
    refine iremM (g := (mkF m 189 #[vI p0, vI p1, vI p2, vI p3, vI (1 : Int32), .unset, vR b21, vI (10 : Int32), .unset, .unset, .unset] [(.int (3 : Int32)), (.int (p1 &&& (2147483647 : Int32))), (.int (9 : Int32))])) X25 hx rfl (hb hby at_189) rfl (by decide) ?_
    refine XS.iadd X25.here hx rfl (hb hby at_190) rfl ?_
    show Steps p.tables e below (T25.setTop (mkF m 191 #[vI p0, vI p1, vI p2, vI p3, vI (1 : Int32), .unset, vR b21, vI (10 : Int32), .unset, .unset, .unset] [(.int ((9 : Int32) + ((p1 &&& (2147483647 : Int32)) % (3 : Int32))))])) _
    refine XS.istore X25.here hx rfl (hb hby at_191) rfl (l' := #[vI p0, vI p1, vI p2, vI p3, vI (1 : Int32), .unset, vR b21, vI (10 : Int32), vI ((9 : Int32) + ((p1 &&& (2147483647 : Int32)) % (3 : Int32))), .unset, .unset]) rfl ?_
    refine XS.iloadN X25.here hx rfl (hb hby at_193) rfl ?_
    show Steps p.tables e below (T25.setTop (mkF m 194 #[vI p0, vI p1, vI p2, vI p3, vI (1 : Int32), .unset, vR b21, vI (10 : Int32), vI ((9 : Int32) + ((p1 &&& (2147483647 : Int32)) % (3 : Int32))), .unset, .unset] [(.int p2)])) _
    refine X25.ldcInt hx hown21 (mvT hZ21 (hw _ (List.mem_of_getElem? (i := 0) rfl))) (g := (mkF m 194 #[vI p0, vI p1, vI p2, vI p3, vI (1 : Int32), .unset, vR b21, vI (10 : Int32), vI ((9 : Int32) + ((p1 &&& (2147483647 : Int32)) % (3 : Int32))), .unset, .unset] [(.int p2)])) rfl (hb hby at_194) _ ?_
    refine XS.iand X25.here hx rfl (hb hby at_196) rfl ?_
    show Steps p.tables e below (T25.setTop (mkF m 197 #[vI p0, vI p1, vI p2, vI p3, vI (1 : Int32), .unset, vR b21, vI (10 : Int32), vI ((9 : Int32) + ((p1 &&& (2147483647 : Int32)) % (3 : Int32))), .unset, .unset] [(.int (p2 &&& (2147483647 : Int32)))])) _
    refine XS.iload X25.here hx rfl (hb hby at_197) rfl ?_
    refine XS.iconst X25.here hx rfl (hb hby at_199) ?_
    show Steps p.tables e below (T25.setTop (mkF m 200 #[vI p0, vI p1, vI p2, vI p3, vI (1 : Int32), .unset, vR b21, vI (10 : Int32), vI ((9 : Int32) + ((p1 &&& (2147483647 : Int32)) % (3 : Int32))), .unset, .unset] [(.int (2 : Int32)), (.int (10 : Int32)), (.int (p2 &&& (2147483647 : Int32)))])) _
    refine XS.iadd X25.here hx rfl (hb hby at_200) rfl ?_
    refine iremM (g := (mkF m 201 #[vI p0, vI p1, vI p2, vI p3, vI (1 : Int32), .unset, vR b21, vI (10 : Int32), vI ((9 : Int32) + ((p1 &&& (2147483647 : Int32)) % (3 : Int32))), .unset, .unset] [(.int (12 : Int32)), (.int (p2 &&& (2147483647 : Int32)))])) X25 hx rfl (hb hby at_201) rfl (by decide) ?_
    show Steps p.tables e below (T25.setTop (mkF m 202 #[vI p0, vI p1, vI p2, vI p3, vI (1 : Int32), .unset, vR b21, vI (10 : Int32), vI ((9 : Int32) + ((p1 &&& (2147483647 : Int32)) % (3 : Int32))), .unset, .unset] [(.int ((p2 &&& (2147483647 : Int32)) % (12 : Int32)))])) _
    rw [c_19]
    show Steps p.tables e below (T25.setTop (mkF m 202 #[vI p0, vI p1, vI p2, vI p3, vI (1 : Int32), .unset, vR b21, vI (10 : Int32), vI ((9 : Int32) + ((p1 &&& (2147483647 : Int32)) % (3 : Int32))), .unset, .unset] [(.int pp)])) _
    refine XS.istore X25.here hx rfl (hb hby at_202) rfl (l' := #[vI p0, vI p1, vI p2, vI p3, vI (1 : Int32), .unset, vR b21, vI (10 : Int32), vI ((9 : Int32) + ((p1 &&& (2147483647 : Int32)) % (3 : Int32))), vI pp, .unset]) rfl ?_
    refine XS.iloadN X25.here hx rfl (hb hby at_204) rfl ?_
    show Steps p.tables e below (T25.setTop (mkF m 205 #[vI p0, vI p1, vI p2, vI p3, vI (1 : Int32), .unset, vR b21, vI (10 : Int32), vI ((9 : Int32) + ((p1 &&& (2147483647 : Int32)) % (3 : Int32))), vI pp, .unset] [(.int p3)])) _
    refine XS.sipush X25.here hx rfl (hb hby at_205) ?_
    refine XS.iand X25.here hx rfl (hb hby at_208) rfl ?_
    show Steps p.tables e below (T25.setTop (mkF m 209 #[vI p0, vI p1, vI p2, vI p3, vI (1 : Int32), .unset, vR b21, vI (10 : Int32), vI ((9 : Int32) + ((p1 &&& (2147483647 : Int32)) % (3 : Int32))), vI pp, .unset] [(.int (p3 &&& (255 : Int32)))])) _
    refine XS.i2c X25.here hx rfl (hb hby at_209) rfl ?_
    show Steps p.tables e below (T25.setTop (mkF m 210 #[vI p0, vI p1, vI p2, vI p3, vI (1 : Int32), .unset, vR b21, vI (10 : Int32), vI ((9 : Int32) + ((p1 &&& (2147483647 : Int32)) % (3 : Int32))), vI pp, .unset] [(.int ((p3 &&& (255 : Int32)).toUInt32.toUInt16.toUInt32.toInt32))])) _
    rw [c_20]
    show Steps p.tables e below (T25.setTop (mkF m 210 #[vI p0, vI p1, vI p2, vI p3, vI (1 : Int32), .unset, vR b21, vI (10 : Int32), vI ((9 : Int32) + ((p1 &&& (2147483647 : Int32)) % (3 : Int32))), vI pp, .unset] [(.int c3)])) _
    refine XS.istore X25.here hx rfl (hb hby at_210) rfl (l' := #[vI p0, vI p1, vI p2, vI p3, vI (1 : Int32), .unset, vR b21, vI (10 : Int32), vI ((9 : Int32) + ((p1 &&& (2147483647 : Int32)) % (3 : Int32))), vI pp, vI c3]) rfl ?_
    refine XS.aload X25.here hx rfl (hb hby at_212) rfl rfl ?_
    show Steps p.tables e below (T25.setTop (mkF m 214 #[vI p0, vI p1, vI p2, vI p3, vI (1 : Int32), .unset, vR b21, vI (10 : Int32), vI ((9 : Int32) + ((p1 &&& (2147483647 : Int32)) % (3 : Int32))), vI pp, vI c3] [(.ref b21)])) _
    refine XS.iload X25.here hx rfl (hb hby at_214) rfl ?_
    refine XS.iload X25.here hx rfl (hb hby at_216) rfl ?_
    show Steps p.tables e below (T25.setTop (mkF m 218 #[vI p0, vI p1, vI p2, vI p3, vI (1 : Int32), .unset, vR b21, vI (10 : Int32), vI ((9 : Int32) + ((p1 &&& (2147483647 : Int32)) % (3 : Int32))), vI pp, vI c3] [(.int pp), (.int ((9 : Int32) + ((p1 &&& (2147483647 : Int32)) % (3 : Int32)))), (.ref b21)])) _
    refine XS.iload X25.here hx rfl (hb hby at_218) rfl ?_
    refine st27 _ ?_
    show Steps p.tables e below (T27.setTop (mkF m 223 #[vI p0, vI p1, vI p2, vI p3, vI (1 : Int32), .unset, vR b21, vI (10 : Int32), vI ((9 : Int32) + ((p1 &&& (2147483647 : Int32)) % (3 : Int32))), vI pp, vI c3] [(.ref b_27)])) _
    refine XS.astore X27.here hx rfl (hb hby at_223) rfl rfl (l' := #[vI p0, vI p1, vI p2, vI p3, vI (1 : Int32), vR b_27, vR b21, vI (10 : Int32), vI ((9 : Int32) + ((p1 &&& (2147483647 : Int32)) % (3 : Int32))), vI pp, vI c3]) rfl ?_
    refine XS.aload X27.here hx rfl (hb hby at_225) rfl rfl ?_
    show Steps p.tables e below (T27.setTop (mkF m 227 #[vI p0, vI p1, vI p2, vI p3, vI (1 : Int32), vR b_27, vR b21, vI (10 : Int32), vI ((9 : Int32) + ((p1 &&& (2147483647 : Int32)) % (3 : Int32))), vI pp, vI c3] [(.ref b_27)])) _
    refine st31 _ ?_
    refine XS.aload X31.here hx rfl (hb hby at_230) rfl rfl ?_
    show Steps p.tables e below (T31.setTop (mkF m 232 #[vI p0, vI p1, vI p2, vI p3, vI (1 : Int32), vR b_27, vR b21, vI (10 : Int32), vI ((9 : Int32) + ((p1 &&& (2147483647 : Int32)) % (3 : Int32))), vI pp, vI c3] [(.ref b_27), (own_db cs_out_27 w_H2 w_POSTGRESQL w_MARIADB)])) _
    refine st35.trans ?_
    refine Jvm.RoadKit.acmp (g := (mkF m 235 #[vI p0, vI p1, vI p2, vI p3, vI (1 : Int32), vR b_27, vR b21, vI (10 : Int32), vI ((9 : Int32) + ((p1 &&& (2147483647 : Int32)) % (3 : Int32))), vI pp, vI c3] [(own_db cs_out_27 w_H2 w_POSTGRESQL w_MARIADB), (own_db cs_out_27 w_H2 w_POSTGRESQL w_MARIADB)])) X35 hx rfl (own_dbR _ _ _ _) (own_dbR _ _ _ _) (pc0 := 235) (pc' := 238) (same := true) rfl (hb hby at_235) rfl (decide_eq_true rfl) (by decide) (by decide) ?_
    show Steps p.tables e below (T35.setTop (mkF m 238 #[vI p0, vI p1, vI p2, vI p3, vI (1 : Int32), vR b_27, vR b21, vI (10 : Int32), vI ((9 : Int32) + ((p1 &&& (2147483647 : Int32)) % (3 : Int32))), vI pp, vI c3] [])) _
    refine XS.iconst X35.here hx rfl (hb hby at_238) ?_
    refine XS.goto X35.here hx rfl (pc0 := 239) (pc' := 243) rfl (hb hby at_239) (by decide) (by decide) ?_
    show Steps p.tables e below (T35.setTop (mkF m 243 #[vI p0, vI p1, vI p2, vI p3, vI (1 : Int32), vR b_27, vR b21, vI (10 : Int32), vI ((9 : Int32) + ((p1 &&& (2147483647 : Int32)) % (3 : Int32))), vI pp, vI c3] [(.int (1 : Int32))])) _
    exact retN X35 hx (t := .boolean) Bd.returns (by simp) (hb hby at_243) hr
  · show Q0k1 Z w_VALUES k_VALUES w_H2 w_POSTGRESQL w_MARIADB w_COMPACT_STRINGS w_SIOOBE_FORMATTER pv_H2 pv_POSTGRESQL pv_MARIADB pp c3 p0 p1 p2 p3 h0 n0 _ T35.heap _
    exact ⟨rfl, N35⟩
def Q0k2 (Z : State) (w_VALUES : Addr) (k_VALUES : ClassId) (w_H2 : Addr) (w_POSTGRESQL : Addr) (w_MARIADB : Addr) (w_COMPACT_STRINGS : Int32) (w_SIOOBE_FORMATTER : Value) (pv_H2 : Addr) (pv_POSTGRESQL : Addr) (pv_MARIADB : Addr) (pp : Int32) (c3 : Int32) (p0 : Int32) (p1 : Int32) (p2 : Int32) (p3 : Int32) (h0 : Heap) (n0 : Nat) (v : Option Value) (h : Heap) (L : List Loc) : Prop := v = some (.int (1 : Int32)) ∧ Fr n0 L
set_option maxRecDepth 65536 in
set_option maxHeartbeats 40000000 in
theorem rm0k2 (l : Launch) (Z : State) (A0 : Array Value) (hw : ∀ d ∈ tables_1, d.before A0 Z = true) (ws : List Jvm.Cond) (w_VALUES : Addr) (k_VALUES : ClassId) (w_H2 : Addr) (w_POSTGRESQL : Addr) (w_MARIADB : Addr) (w_COMPACT_STRINGS : Int32) (w_SIOOBE_FORMATTER : Value) (pv_H2 : Addr) (pv_POSTGRESQL : Addr) (pv_MARIADB : Addr) (pp : Int32) (c3 : Int32) (p0 : Int32) (p1 : Int32) (p2 : Int32) (p3 : Int32) (h0 : Heap) (n0 : Nat) (OLD : Old Z n0 h0) (f_1 : Sta Z Z.heap "com/example/seshat/seshat/jpql/Database" "$VALUES" "[Lcom/example/seshat/seshat/jpql/Database;" (.ref w_VALUES)) (f_2 : Exa Z Z.heap w_VALUES "[Lcom/example/seshat/seshat/jpql/Database;") (f_3 : Arv Z Z.heap w_VALUES k_VALUES (.object "com/example/seshat/seshat/jpql/Database") (3 : Int32) [(.ref w_H2), (.ref w_POSTGRESQL), (.ref w_MARIADB)] .null) (f_4 : Sta Z Z.heap "java/lang/String" "COMPACT_STRINGS" "Z" (.int w_COMPACT_STRINGS)) (c_5 : ¬ (w_COMPACT_STRINGS = (0 : Int32))) (f_6 : Sta Z Z.heap "jdk/internal/util/Preconditions" "SIOOBE_FORMATTER" "Ljava/util/function/BiFunction;" w_SIOOBE_FORMATTER) (c_7 : w_SIOOBE_FORMATTER.isRef = true) (f_8 : Fld Z Z.heap w_H2 "com/example/seshat/seshat/jpql/Database" "propertyValue" "Ljava/lang/String;" (.ref pv_H2)) (f_9 : Fld Z Z.heap w_POSTGRESQL "com/example/seshat/seshat/jpql/Database" "propertyValue" "Ljava/lang/String;" (.ref pv_POSTGRESQL)) (f_10 : Fld Z Z.heap w_MARIADB "com/example/seshat/seshat/jpql/Database" "propertyValue" "Ljava/lang/String;" (.ref pv_MARIADB)) (f_11 : own_Txt Z Z.heap pv_H2 ([104, 50] : List Int32)) (f_12 : own_Txt Z Z.heap pv_POSTGRESQL ([112, 111, 115, 116, 103, 114, 101, 115, 113, 108] : List Int32)) (f_13 : own_Txt Z Z.heap pv_MARIADB ([109, 97, 114, 105, 97, 100, 98] : List Int32)) (f_14 : Sta Z Z.heap "com/example/seshat/seshat/jpql/Database" "H2" "Lcom/example/seshat/seshat/jpql/Database;" (.ref w_H2)) (f_15 : Sta Z Z.heap "com/example/seshat/seshat/jpql/Database" "POSTGRESQL" "Lcom/example/seshat/seshat/jpql/Database;" (.ref w_POSTGRESQL)) (f_16 : Sta Z Z.heap "com/example/seshat/seshat/jpql/Database" "MARIADB" "Lcom/example/seshat/seshat/jpql/Database;" (.ref w_MARIADB)) (c_17 : own_B c3) (c_18 : ((p0 &&& (2147483647 : Int32)) % (4 : Int32)) = (2 : Int32)) (c_19 : ((p2 &&& (2147483647 : Int32)) % (9 : Int32)) = pp) (c_20 : ((p3 &&& (255 : Int32)).toUInt32.toUInt16.toUInt32.toInt32) = c3) (c_26 : own_lens ((6 : Int32) + ((p1 &&& (2147483647 : Int32)) % (3 : Int32)))) :
    MetFree l x (head1 (Jvm.Cond.code x code maxLocals ret :: ws) room_1) (fun a U => a = #[(.int p0), (.int p1), (.int p2), (.int p3)] ∧ Z.Warmed39 U.vm ∧ U.heap = h0 ∧ CHv Z consts_1 U.vm h0) (fun _ _ _ _ _ => True) (fun _ U o U' => ∃ v L, o = .returned v ∧ Q0k2 Z w_VALUES k_VALUES w_H2 w_POSTGRESQL w_MARIADB w_COMPACT_STRINGS w_SIOOBE_FORMATTER pv_H2 pv_POSTGRESQL pv_MARIADB pp c3 p0 p1 p2 p3 h0 n0 v U'.heap L ∧ CHr Z consts_1 U.vm U.heap U'.vm U'.heap ∧ ReturnedEndW U o U' L room_1.cells room_1.slots) := by
  refine MetFree.of_bodySF (plainFor_of_name pn_com_example_seshat_seshat_jpql_DatabaseNamedPinLaw) hisR ?_
  intro p e s m args below meth c s₁ Bd hml0 hP hK
  obtain ⟨rfl, hZ, hh, hCH⟩ := hP
  have hx := Bd.exec
  have hby := Bd.bytes
  have hml : c.maxLocals = 11 := hml0
  have hown : s.vm.findClass "com/example/seshat/seshat/jpql/DatabaseNamedPinLaw" = some m.cls := findClass_of_methodNamed Bd.named
  have hnm := (name_of_methodNamed Bd.named Bd.method).1
  have X0 : Stand p l e room_1 (s.setVm s.vm) m #[(.int p0), (.int p1), (.int p2), (.int p3)] below meth c s₁ [] 0 0 := Stand.of_body Bd
  have e0 : s₁.heap = h0 := by rw [← hh, Bd.state]; rfl
  have hS0 : s.Since s.vm h0.size := (State.WarmedH.refl s).since _
  have hk0 : h0.size ≤ h0.size := Nat.le_refl _
  have hZ : Z.Warmed39 (s.setVm s.vm).vm := hZ
  have hown : (s.setVm s.vm).vm.findClass "com/example/seshat/seshat/jpql/DatabaseNamedPinLaw" = some m.cls := hown
  have CH0 : CHr Z consts_1 (s.setVm s.vm).vm h0 (s.setVm s.vm).vm h0 := CHr.refl hCH
  have N0 := Fr.nil n0
  have pre0 : ∀ t, Steps p.tables e below (s₁.setTop (mkF m 0 #[vI p0, vI p1, vI p2, vI p3, .unset, .unset, .unset, .unset, .unset, .unset, .unset] [])) t → Steps p.tables e below (s₁.setTop (entryFrame m #[(.int p0), (.int p1), (.int p2), (.int p3)] maxLocals)) t := fun t k => castTop (ef_0 m p0 p1 p2 p3) k
  obtain ⟨b21, T21, h21, k21, d21, kd21, X21, e21, E21, hS21, hk21, hZ21, hown21, A21, Fc21, Fv21, V21, la21, lb21, C21, -, sn21, st21⟩ := ldcCH (s := s) (EL := consts_1) X0 hx hZ hown (hw _ (List.mem_of_getElem? (i := 105) rfl)) (own_strs hw) e0 hS0 hk0 (own_EW hw) (by decide) CH0.1 (vs := [(.int (109 : Int32)), (.int (97 : Int32)), (.int (114 : Int32)), (.int (105 : Int32)), (.int (97 : Int32)), (.int (100 : Int32)), (.int (98 : Int32))]) (z := (7 : Int32)) ⟨by decide, by decide⟩ (by decide) (by decide) (g := (mkF m 169 #[vI p0, vI p1, vI p2, vI p3, vI (2 : Int32), .unset, .unset, .unset, .unset, .unset, .unset] [])) rfl (hb hby at_169) (n := 28) (by decide) (by decide) (by decide) (by decide)
  have K_22 : Keep h0 h21 [] := (Keep.refl h0 []).ext E21
  have CH_23 := CH0.trans C21
  have O_24 := Old.ext OLD E21
  obtain ⟨cq25, kq25, q25a, q25b, q25c⟩ := isOf hZ21 e21 A21
  obtain ⟨_, _, ⟨T25, L25, k25, n25⟩, -, X25, ⟨Lc25, hQ25, l25, y25, z25⟩, st25⟩ := X21.virtualBack hx (y := (⟨"java/lang/String", "length", "()I"⟩ : MethodName)) (z := (⟨"java/lang/String", "length", "()I"⟩ : MethodName)) hown21 (mvT hZ21 (hw _ (List.mem_of_getElem? (i := 9) rfl))) (mvT hZ21 (hw _ (List.mem_of_getElem? (i := 10) rfl))) (notFace_of_selects (args := #[]) (mvT hZ21 (hw _ (List.mem_of_getElem? (i := 12) rfl)))) (mvT hZ21 (hw _ (List.mem_of_getElem? (i := 12) rfl))) (mvT hZ21 (hw _ (List.mem_of_getElem? (i := 11) rfl))) (by decide) (own_lenB (W := 0) (N := (7 : Int32)) hZ21 hw O_24 f_4 c_5 (own_txtK (cs := ([109, 97, 114, 105, 97, 100, 98] : List Int32)) A21 Fv21 Fc21 V21 rfl rfl (by decide) (by decide)) rfl (by decide) (by decide)) q25a q25c (g := (mkF m 175 #[vI p0, vI p1, vI p2, vI p3, vI (2 : Int32), .unset, vR b21, .unset, .unset, .unset, .unset] [(.ref b21)])) rfl (by rw [hml]; rfl) (Steps.refl _) (argsL := []) (rest := []) (lenOf pd_0 rfl) rfl (by show 2 * 0 + _ ≤ _; exact Nat.le_of_eq rfl) (hb hby at_175) (fun _ _ => ⟨rfl, e21, (by decide : 2 + 0 ≤ _), (by decide : 32 + 0 ≤ _)⟩)
  dsimp only [Pt.U, Pt.locs, Pt.cells, Pt.slots] at X25 l25 y25 z25 st25 hQ25
  subst l25 y25 z25
  obtain ⟨rfl, N25q, e25⟩ := hQ25
  have N25 := Fr.app N0 N25q
  obtain ⟨_, _, ⟨T27, L27, k27, n27⟩, -, X27, ⟨Lc27, hQ27, l27, y27, z27⟩, st27⟩ := Jvm.LawKit.callS X25 hx (y := (⟨"com/example/seshat/seshat/jpql/DatabaseNamedPinLaw", "word", "(Ljava/lang/String;IIC)Ljava/lang/String;"⟩ : MethodName)) hown21 (mvT hZ21 (hw _ (List.mem_of_getElem? (i := 22) rfl))) (mvT hZ21 (hw _ (List.mem_of_getElem? (i := 23) rfl))) (mvT hZ21 (hw _ (List.mem_of_getElem? (i := 24) rfl))) (mvT hZ21 (hw _ (List.mem_of_getElem? (i := 25) rfl))) (by decide) (backOf (W := 0) (rm3 l Z A0 hw [] ((6 : Int32) + ((p1 &&& (2147483647 : Int32)) % (3 : Int32))) ([109, 97, 114, 105, 97, 100, 98] : List Int32) w_COMPACT_STRINGS w_SIOOBE_FORMATTER b21 pp c3 h21 n0 O_24 (own_txtK (cs := ([109, 97, 114, 105, 97, 100, 98] : List Int32)) A21 Fv21 Fc21 V21 rfl rfl (by decide) (by decide)) c_17 f_4 c_5 f_6 c_7 c_26) hZ21 (hw _ (List.mem_of_getElem? (i := 25) rfl)) (hw _ (List.mem_of_getElem? (i := 24) rfl)) (by decide) (by decide)) (g := (mkF m 220 #[vI p0, vI p1, vI p2, vI p3, vI (2 : Int32), .unset, vR b21, vI (7 : Int32), vI ((6 : Int32) + ((p1 &&& (2147483647 : Int32)) % (3 : Int32))), vI pp, vI c3] [(.int c3), (.int pp), (.int ((6 : Int32) + ((p1 &&& (2147483647 : Int32)) % (3 : Int32)))), (.ref b21)])) rfl (by rw [hml]; rfl) (argsL := [(.ref b21), (.int ((6 : Int32) + ((p1 &&& (2147483647 : Int32)) % (3 : Int32)))), (.int pp), (.int c3)]) (rest := []) (lenOf pd_11 rfl) rfl (by show 2 * 0 + _ ≤ _; exact Nat.le_of_eq rfl) (hb hby at_220) (fun _ _ => ⟨rfl, e25, (by decide : 2 + 3 ≤ _), (by decide : 32 + 40 ≤ _)⟩)
  dsimp only [Pt.U, Pt.locs, Pt.cells, Pt.slots] at X27 l27 y27 z27 st27 hQ27
  subst l27 y27 z27
  obtain ⟨b_27, cs_out_27, rfl, N27q, K27, g27_0, g27_1⟩ := hQ27
  have N27 := Fr.app N25 N27q
  have K_28 : Keep h0 T27.heap [] := Keep.trans K_22 K27 all0
  have CH_29 := CH_23.trans (CHr.keep K27 sf0 CH_23.1)
  have O_30 := Old.keep O_24 K27 all0
  obtain ⟨_, _, ⟨T31, L31, k31, n31⟩, -, X31, ⟨Lc31, hQ31, l31, y31, z31⟩, st31⟩ := Jvm.LawKit.callS X27 hx (y := (⟨"com/example/seshat/seshat/jpql/Database", "named", "(Ljava/lang/String;)Lcom/example/seshat/seshat/jpql/Database;"⟩ : MethodName)) hown21 (mvT hZ21 (hw _ (List.mem_of_getElem? (i := 68) rfl))) (mvT hZ21 (hw _ (List.mem_of_getElem? (i := 69) rfl))) (mvT hZ21 (hw _ (List.mem_of_getElem? (i := 70) rfl))) (mvT hZ21 (hw _ (List.mem_of_getElem? (i := 71) rfl))) (by decide) (backOf (W := 0) (rm15 l Z A0 hw [] w_VALUES k_VALUES w_H2 w_POSTGRESQL w_MARIADB cs_out_27 w_COMPACT_STRINGS pv_H2 pv_POSTGRESQL pv_MARIADB b_27 T27.heap n0 O_30 f_1 f_2 f_3 g27_1 f_4 c_5 f_8 f_9 f_10 f_11 f_12 f_13) hZ21 (hw _ (List.mem_of_getElem? (i := 71) rfl)) (hw _ (List.mem_of_getElem? (i := 70) rfl)) (by decide) (by decide)) (g := (mkF m 227 #[vI p0, vI p1, vI p2, vI p3, vI (2 : Int32), vR b_27, vR b21, vI (7 : Int32), vI ((6 : Int32) + ((p1 &&& (2147483647 : Int32)) % (3 : Int32))), vI pp, vI c3] [(.ref b_27)])) rfl (by rw [hml]; rfl) (argsL := [(.ref b_27)]) (rest := []) (lenOf pd_12 rfl) rfl (by show 2 * 0 + _ ≤ _; exact Nat.le_of_eq rfl) (hb hby at_227) (fun _ _ => ⟨rfl, rfl, (by decide : 5 + 1 ≤ _), (by decide : 72 + 3 ≤ _)⟩)
  dsimp only [Pt.U, Pt.locs, Pt.cells, Pt.slots] at X31 l31 y31 z31 st31 hQ31
  subst l31 y31 z31
  obtain ⟨rfl, N31q, K31⟩ := hQ31
  have N31 := Fr.app N27 N31q
  have K_32 : Keep h0 T31.heap [] := Keep.trans K_28 K31 all0
  have CH_33 := CH_29.trans (CHr.keep K31 sf0 CH_29.1)
  have f_34 := g27_1.keep0 K31
  have O_36 := Old.keep O_30 K31 all0
  obtain ⟨_, _, ⟨T35, L35, k35, n35⟩, -, X35, hS35q, hg35q, ⟨Lc35, hQ35, l35, y35, z35, C35⟩, st35⟩ := callSS X31 hx (y := (⟨"com/example/seshat/seshat/jpql/DatabaseNamedPinLaw", "expected", "(Ljava/lang/String;)Lcom/example/seshat/seshat/jpql/Database;"⟩ : MethodName)) hown21 (mvT hZ21 (hw _ (List.mem_of_getElem? (i := 100) rfl))) (mvT hZ21 (hw _ (List.mem_of_getElem? (i := 101) rfl))) (mvT hZ21 (hw _ (List.mem_of_getElem? (i := 24) rfl))) (mvT hZ21 (hw _ (List.mem_of_getElem? (i := 102) rfl))) (by decide) (backOfSH (W := 1) (rm19 l Z A0 hw [] cs_out_27 w_COMPACT_STRINGS w_H2 w_POSTGRESQL w_MARIADB b_27 T31.heap n0 O_36 f_34 f_4 c_5 f_14 f_15 f_16) hZ21 (hw _ (List.mem_of_getElem? (i := 102) rfl)) (hw _ (List.mem_of_getElem? (i := 24) rfl)) (by decide) (by decide) (own_EW hw) CH_33.1) (g := (mkF m 232 #[vI p0, vI p1, vI p2, vI p3, vI (2 : Int32), vR b_27, vR b21, vI (7 : Int32), vI ((6 : Int32) + ((p1 &&& (2147483647 : Int32)) % (3 : Int32))), vI pp, vI c3] [(.ref b_27), (own_db cs_out_27 w_H2 w_POSTGRESQL w_MARIADB)])) rfl (by rw [hml]; rfl) (argsL := [(.ref b_27)]) (rest := [(own_db cs_out_27 w_H2 w_POSTGRESQL w_MARIADB)]) (lenOf pd_12 rfl) rfl (by show 2 * 0 + _ ≤ _; simp [own_dbC]) (hb hby at_232) (fun _ _ => ⟨rfl, rfl, (by decide : 6 + 6 ≤ _), (by decide : 75 + 100 ≤ _)⟩)
  dsimp only [Pt.U, Pt.locs, Pt.cells, Pt.slots] at X35 l35 y35 z35 st35 hQ35
  subst l35 y35 z35
  dsimp only [Pt.U, Pt.locs, Pt.cells, Pt.slots] at hS35q hg35q
  have hS35 := foldS (T := T31) hS21 (Nat.le_trans (Nat.le_trans hk21 K27.1) K31.1) hS35q hg35q
  have hZ35 : Z.Warmed39 (s.setVm T35.vm).vm := State.Warmed39.trans (t := s.setVm _) hZ21 hS35q.1
  have hown35 : (s.setVm T35.vm).vm.findClass "com/example/seshat/seshat/jpql/DatabaseNamedPinLaw" = some m.cls := by rw [show (s.setVm T35.vm).vm = T35.vm from rfl, hS35q.1.alike.findClass]; exact hown21
  have X35 : Stand p l e room_1 (s.setVm T35.vm) m _ below meth c T35 _ _ _ := X35
  dsimp only [Pt.U] at C35
  obtain ⟨rfl, N35q, K35⟩ := hQ35
  have N35 := Fr.app N31 N35q
  have K_37 : Keep h0 T35.heap [] := Keep.trans K_32 K35 all0
  have CH_38 := CH_33.trans C35
  obtain ⟨fs, hr, hrun, hended, hRW⟩ := X35.leaveW (s := s) hS35 (Nat.le_refl _) (v := some (.int (1 : Int32))) (fun h => by rw [Bd.returns] at h; cases h)
  refine ⟨_, _, pre0 _ ?_, hrun, hended, _, _, rfl, ?_, (by have q := CH_38.trans (CHv.at X35 hZ35 (own_EW hw) CH_38.1); rw [hh]; show CHr Z consts_1 s.vm h0 T35.vm T35.heap; exact q), hRW.1, hRW.2.1, hRW.2.2.1, hRW.2.2.2.mono (by decide) (by decide)⟩
  · show Steps p.tables e below (s₁.setTop (mkF m 0 #[vI p0, vI p1, vI p2, vI p3, .unset, .unset, .unset, .unset, .unset, .unset, .unset] [])) _
    refine XS.iloadN X0.here hx rfl (hb hby at_0) rfl ?_
    refine X0.ldcInt hx hown (mvT hZ (hw _ (List.mem_of_getElem? (i := 0) rfl))) (g := (mkF m 1 #[vI p0, vI p1, vI p2, vI p3, .unset, .unset, .unset, .unset, .unset, .unset, .unset] [(.int p0)])) rfl (hb hby at_1) _ ?_
    show Steps p.tables e below (s₁.setTop (mkF m 3 #[vI p0, vI p1, vI p2, vI p3, .unset, .unset, .unset, .unset, .unset, .unset, .unset] [(.int (2147483647 : Int32)), (.int p0)])) _
    refine XS.iand X0.here hx rfl (hb hby at_3) rfl ?_
    refine XS.iconst X0.here hx rfl (hb hby at_4) ?_
    show Steps p.tables e below (s₁.setTop (mkF m 5 #[vI p0, vI p1, vI p2, vI p3, .unset, .unset, .unset, .unset, .unset, .unset, .unset] [(.int (4 : Int32)), (.int (p0 &&& (2147483647 : Int32)))])) _
    refine iremM (g := (mkF m 5 #[vI p0, vI p1, vI p2, vI p3, .unset, .unset, .unset, .unset, .unset, .unset, .unset] [(.int (4 : Int32)), (.int (p0 &&& (2147483647 : Int32)))])) X0 hx rfl (hb hby at_5) rfl (by decide) ?_
    show Steps p.tables e below (s₁.setTop (mkF m 6 #[vI p0, vI p1, vI p2, vI p3, .unset, .unset, .unset, .unset, .unset, .unset, .unset] [(.int ((p0 &&& (2147483647 : Int32)) % (4 : Int32)))])) _
    rw [c_18]
    show Steps p.tables e below (s₁.setTop (mkF m 6 #[vI p0, vI p1, vI p2, vI p3, .unset, .unset, .unset, .unset, .unset, .unset, .unset] [(.int (2 : Int32))])) _
    refine XS.istore X0.here hx rfl (hb hby at_6) rfl (l' := #[vI p0, vI p1, vI p2, vI p3, vI (2 : Int32), .unset, .unset, .unset, .unset, .unset, .unset]) rfl ?_
    refine XS.iload X0.here hx rfl (hb hby at_8) rfl ?_
    show Steps p.tables e below (s₁.setTop (mkF m 10 #[vI p0, vI p1, vI p2, vI p3, vI (2 : Int32), .unset, .unset, .unset, .unset, .unset, .unset] [(.int (2 : Int32))])) _
    refine XS.iconst X0.here hx rfl (hb hby at_10) ?_
    refine XS.icmpYes X0.here hx rfl (pc0 := 11) (pc' := 148) rfl (hb hby at_11) rfl (feq (by decide : ¬ ((2 : Int32) = (3 : Int32)))).2 (by decide) (by decide) ?_
    show Steps p.tables e below (s₁.setTop (mkF m 148 #[vI p0, vI p1, vI p2, vI p3, vI (2 : Int32), .unset, .unset, .unset, .unset, .unset, .unset] [])) _
    refine XS.iload X0.here hx rfl (hb hby at_148) rfl ?_
    refine XS.ifYes X0.here hx rfl (pc0 := 150) (pc' := 158) rfl (hb hby at_150) rfl ((if0 _ _).trans (feq (by decide : ¬ ((2 : Int32) = (0 : Int32)))).2) (by decide) (by decide) ?_
    show Steps p.tables e below (s₁.setTop (mkF m 158 #[vI p0, vI p1, vI p2, vI p3, vI (2 : Int32), .unset, .unset, .unset, .unset, .unset, .unset] [])) _
    refine XS.iload X0.here hx rfl (hb hby at_158) rfl ?_
    refine XS.iconst X0.here hx rfl (hb hby at_160) ?_
    show Steps p.tables e below (s₁.setTop (mkF m 161 #[vI p0, vI p1, vI p2, vI p3, vI (2 : Int32), .unset, .unset, .unset, .unset, .unset, .unset] [(.int (1 : Int32)), (.int (2 : Int32))])) _
    refine XS.icmpYes X0.here hx rfl (pc0 := 161) (pc' := 169) rfl (hb hby at_161) rfl (feq (by decide : ¬ ((2 : Int32) = (1 : Int32)))).2 (by decide) (by decide) ?_
    refine st21 _ ?_
    show Steps p.tables e below (T21.setTop (mkF m 171 #[vI p0, vI p1, vI p2, vI p3, vI (2 : Int32), .unset, .unset, .unset, .unset, .unset, .unset] [(.ref b21)])) _
    refine XS.astore X21.here hx rfl (hb hby at_171) rfl rfl (l' := #[vI p0, vI p1, vI p2, vI p3, vI (2 : Int32), .unset, vR b21, .unset, .unset, .unset, .unset]) rfl ?_
    refine XS.aload X21.here hx rfl (hb hby at_173) rfl rfl ?_
    show Steps p.tables e below (T21.setTop (mkF m 175 #[vI p0, vI p1, vI p2, vI p3, vI (2 : Int32), .unset, vR b21, .unset, .unset, .unset, .unset] [(.ref b21)])) _
    refine st25.trans ?_
    refine XS.istore X25.here hx rfl (hb hby at_178) rfl (l' := #[vI p0, vI p1, vI p2, vI p3, vI (2 : Int32), .unset, vR b21, vI (7 : Int32), .unset, .unset, .unset]) rfl ?_
    show Steps p.tables e below (T25.setTop (mkF m 180 #[vI p0, vI p1, vI p2, vI p3, vI (2 : Int32), .unset, vR b21, vI (7 : Int32), .unset, .unset, .unset] [])) _
    refine XS.iload X25.here hx rfl (hb hby at_180) rfl ?_
    refine XS.iconst X25.here hx rfl (hb hby at_182) ?_
    show Steps p.tables e below (T25.setTop (mkF m 183 #[vI p0, vI p1, vI p2, vI p3, vI (2 : Int32), .unset, vR b21, vI (7 : Int32), .unset, .unset, .unset] [(.int (1 : Int32)), (.int (7 : Int32))])) _
    refine XS.isub X25.here hx rfl (hb hby at_183) rfl ?_
    refine XS.iloadN X25.here hx rfl (hb hby at_184) rfl ?_
    show Steps p.tables e below (T25.setTop (mkF m 185 #[vI p0, vI p1, vI p2, vI p3, vI (2 : Int32), .unset, vR b21, vI (7 : Int32), .unset, .unset, .unset] [(.int p1), (.int (6 : Int32))])) _
    refine X25.ldcInt hx hown21 (mvT hZ21 (hw _ (List.mem_of_getElem? (i := 0) rfl))) (g := (mkF m 185 #[vI p0, vI p1, vI p2, vI p3, vI (2 : Int32), .unset, vR b21, vI (7 : Int32), .unset, .unset, .unset] [(.int p1), (.int (6 : Int32))])) rfl (hb hby at_185) _ ?_
    refine XS.iand X25.here hx rfl (hb hby at_187) rfl ?_
    show Steps p.tables e below (T25.setTop (mkF m 188 #[vI p0, vI p1, vI p2, vI p3, vI (2 : Int32), .unset, vR b21, vI (7 : Int32), .unset, .unset, .unset] [(.int (p1 &&& (2147483647 : Int32))), (.int (6 : Int32))])) _
    refine XS.iconst X25.here hx rfl (hb hby at_188) ?_
    refine iremM (g := (mkF m 189 #[vI p0, vI p1, vI p2, vI p3, vI (2 : Int32), .unset, vR b21, vI (7 : Int32), .unset, .unset, .unset] [(.int (3 : Int32)), (.int (p1 &&& (2147483647 : Int32))), (.int (6 : Int32))])) X25 hx rfl (hb hby at_189) rfl (by decide) ?_
    show Steps p.tables e below (T25.setTop (mkF m 190 #[vI p0, vI p1, vI p2, vI p3, vI (2 : Int32), .unset, vR b21, vI (7 : Int32), .unset, .unset, .unset] [(.int ((p1 &&& (2147483647 : Int32)) % (3 : Int32))), (.int (6 : Int32))])) _
    refine XS.iadd X25.here hx rfl (hb hby at_190) rfl ?_
    refine XS.istore X25.here hx rfl (hb hby at_191) rfl (l' := #[vI p0, vI p1, vI p2, vI p3, vI (2 : Int32), .unset, vR b21, vI (7 : Int32), vI ((6 : Int32) + ((p1 &&& (2147483647 : Int32)) % (3 : Int32))), .unset, .unset]) rfl ?_
    show Steps p.tables e below (T25.setTop (mkF m 193 #[vI p0, vI p1, vI p2, vI p3, vI (2 : Int32), .unset, vR b21, vI (7 : Int32), vI ((6 : Int32) + ((p1 &&& (2147483647 : Int32)) % (3 : Int32))), .unset, .unset] [])) _
    refine XS.iloadN X25.here hx rfl (hb hby at_193) rfl ?_
    refine X25.ldcInt hx hown21 (mvT hZ21 (hw _ (List.mem_of_getElem? (i := 0) rfl))) (g := (mkF m 194 #[vI p0, vI p1, vI p2, vI p3, vI (2 : Int32), .unset, vR b21, vI (7 : Int32), vI ((6 : Int32) + ((p1 &&& (2147483647 : Int32)) % (3 : Int32))), .unset, .unset] [(.int p2)])) rfl (hb hby at_194) _ ?_
    show Steps p.tables e below (T25.setTop (mkF m 196 #[vI p0, vI p1, vI p2, vI p3, vI (2 : Int32), .unset, vR b21, vI (7 : Int32), vI ((6 : Int32) + ((p1 &&& (2147483647 : Int32)) % (3 : Int32))), .unset, .unset] [(.int (2147483647 : Int32)), (.int p2)])) _
    refine XS.iand X25.here hx rfl (hb hby at_196) rfl ?_
    refine XS.iload X25.here hx rfl (hb hby at_197) rfl ?_
    show Steps p.tables e below (T25.setTop (mkF m 199 #[vI p0, vI p1, vI p2, vI p3, vI (2 : Int32), .unset, vR b21, vI (7 : Int32), vI ((6 : Int32) + ((p1 &&& (2147483647 : Int32)) % (3 : Int32))), .unset, .unset] [(.int (7 : Int32)), (.int (p2 &&& (2147483647 : Int32)))])) _
    refine XS.iconst X25.here hx rfl (hb hby at_199) ?_
    refine XS.iadd X25.here hx rfl (hb hby at_200) rfl ?_
    show Steps p.tables e below (T25.setTop (mkF m 201 #[vI p0, vI p1, vI p2, vI p3, vI (2 : Int32), .unset, vR b21, vI (7 : Int32), vI ((6 : Int32) + ((p1 &&& (2147483647 : Int32)) % (3 : Int32))), .unset, .unset] [(.int (9 : Int32)), (.int (p2 &&& (2147483647 : Int32)))])) _
    refine iremM (g := (mkF m 201 #[vI p0, vI p1, vI p2, vI p3, vI (2 : Int32), .unset, vR b21, vI (7 : Int32), vI ((6 : Int32) + ((p1 &&& (2147483647 : Int32)) % (3 : Int32))), .unset, .unset] [(.int (9 : Int32)), (.int (p2 &&& (2147483647 : Int32)))])) X25 hx rfl (hb hby at_201) rfl (by decide) ?_
    show Steps p.tables e below (T25.setTop (mkF m 202 #[vI p0, vI p1, vI p2, vI p3, vI (2 : Int32), .unset, vR b21, vI (7 : Int32), vI ((6 : Int32) + ((p1 &&& (2147483647 : Int32)) % (3 : Int32))), .unset, .unset] [(.int ((p2 &&& (2147483647 : Int32)) % (9 : Int32)))])) _
    rw [c_19]
    show Steps p.tables e below (T25.setTop (mkF m 202 #[vI p0, vI p1, vI p2, vI p3, vI (2 : Int32), .unset, vR b21, vI (7 : Int32), vI ((6 : Int32) + ((p1 &&& (2147483647 : Int32)) % (3 : Int32))), .unset, .unset] [(.int pp)])) _
    refine XS.istore X25.here hx rfl (hb hby at_202) rfl (l' := #[vI p0, vI p1, vI p2, vI p3, vI (2 : Int32), .unset, vR b21, vI (7 : Int32), vI ((6 : Int32) + ((p1 &&& (2147483647 : Int32)) % (3 : Int32))), vI pp, .unset]) rfl ?_
    refine XS.iloadN X25.here hx rfl (hb hby at_204) rfl ?_
    show Steps p.tables e below (T25.setTop (mkF m 205 #[vI p0, vI p1, vI p2, vI p3, vI (2 : Int32), .unset, vR b21, vI (7 : Int32), vI ((6 : Int32) + ((p1 &&& (2147483647 : Int32)) % (3 : Int32))), vI pp, .unset] [(.int p3)])) _
    refine XS.sipush X25.here hx rfl (hb hby at_205) ?_
    refine XS.iand X25.here hx rfl (hb hby at_208) rfl ?_
    show Steps p.tables e below (T25.setTop (mkF m 209 #[vI p0, vI p1, vI p2, vI p3, vI (2 : Int32), .unset, vR b21, vI (7 : Int32), vI ((6 : Int32) + ((p1 &&& (2147483647 : Int32)) % (3 : Int32))), vI pp, .unset] [(.int (p3 &&& (255 : Int32)))])) _
    refine XS.i2c X25.here hx rfl (hb hby at_209) rfl ?_
    show Steps p.tables e below (T25.setTop (mkF m 210 #[vI p0, vI p1, vI p2, vI p3, vI (2 : Int32), .unset, vR b21, vI (7 : Int32), vI ((6 : Int32) + ((p1 &&& (2147483647 : Int32)) % (3 : Int32))), vI pp, .unset] [(.int ((p3 &&& (255 : Int32)).toUInt32.toUInt16.toUInt32.toInt32))])) _
    rw [c_20]
    show Steps p.tables e below (T25.setTop (mkF m 210 #[vI p0, vI p1, vI p2, vI p3, vI (2 : Int32), .unset, vR b21, vI (7 : Int32), vI ((6 : Int32) + ((p1 &&& (2147483647 : Int32)) % (3 : Int32))), vI pp, .unset] [(.int c3)])) _
    refine XS.istore X25.here hx rfl (hb hby at_210) rfl (l' := #[vI p0, vI p1, vI p2, vI p3, vI (2 : Int32), .unset, vR b21, vI (7 : Int32), vI ((6 : Int32) + ((p1 &&& (2147483647 : Int32)) % (3 : Int32))), vI pp, vI c3]) rfl ?_
    refine XS.aload X25.here hx rfl (hb hby at_212) rfl rfl ?_
    show Steps p.tables e below (T25.setTop (mkF m 214 #[vI p0, vI p1, vI p2, vI p3, vI (2 : Int32), .unset, vR b21, vI (7 : Int32), vI ((6 : Int32) + ((p1 &&& (2147483647 : Int32)) % (3 : Int32))), vI pp, vI c3] [(.ref b21)])) _
    refine XS.iload X25.here hx rfl (hb hby at_214) rfl ?_
    refine XS.iload X25.here hx rfl (hb hby at_216) rfl ?_
    show Steps p.tables e below (T25.setTop (mkF m 218 #[vI p0, vI p1, vI p2, vI p3, vI (2 : Int32), .unset, vR b21, vI (7 : Int32), vI ((6 : Int32) + ((p1 &&& (2147483647 : Int32)) % (3 : Int32))), vI pp, vI c3] [(.int pp), (.int ((6 : Int32) + ((p1 &&& (2147483647 : Int32)) % (3 : Int32)))), (.ref b21)])) _
    refine XS.iload X25.here hx rfl (hb hby at_218) rfl ?_
    refine st27 _ ?_
    show Steps p.tables e below (T27.setTop (mkF m 223 #[vI p0, vI p1, vI p2, vI p3, vI (2 : Int32), .unset, vR b21, vI (7 : Int32), vI ((6 : Int32) + ((p1 &&& (2147483647 : Int32)) % (3 : Int32))), vI pp, vI c3] [(.ref b_27)])) _
    refine XS.astore X27.here hx rfl (hb hby at_223) rfl rfl (l' := #[vI p0, vI p1, vI p2, vI p3, vI (2 : Int32), vR b_27, vR b21, vI (7 : Int32), vI ((6 : Int32) + ((p1 &&& (2147483647 : Int32)) % (3 : Int32))), vI pp, vI c3]) rfl ?_
    refine XS.aload X27.here hx rfl (hb hby at_225) rfl rfl ?_
    show Steps p.tables e below (T27.setTop (mkF m 227 #[vI p0, vI p1, vI p2, vI p3, vI (2 : Int32), vR b_27, vR b21, vI (7 : Int32), vI ((6 : Int32) + ((p1 &&& (2147483647 : Int32)) % (3 : Int32))), vI pp, vI c3] [(.ref b_27)])) _
    refine st31 _ ?_
    refine XS.aload X31.here hx rfl (hb hby at_230) rfl rfl ?_
    show Steps p.tables e below (T31.setTop (mkF m 232 #[vI p0, vI p1, vI p2, vI p3, vI (2 : Int32), vR b_27, vR b21, vI (7 : Int32), vI ((6 : Int32) + ((p1 &&& (2147483647 : Int32)) % (3 : Int32))), vI pp, vI c3] [(.ref b_27), (own_db cs_out_27 w_H2 w_POSTGRESQL w_MARIADB)])) _
    refine st35.trans ?_
    refine Jvm.RoadKit.acmp (g := (mkF m 235 #[vI p0, vI p1, vI p2, vI p3, vI (2 : Int32), vR b_27, vR b21, vI (7 : Int32), vI ((6 : Int32) + ((p1 &&& (2147483647 : Int32)) % (3 : Int32))), vI pp, vI c3] [(own_db cs_out_27 w_H2 w_POSTGRESQL w_MARIADB), (own_db cs_out_27 w_H2 w_POSTGRESQL w_MARIADB)])) X35 hx rfl (own_dbR _ _ _ _) (own_dbR _ _ _ _) (pc0 := 235) (pc' := 238) (same := true) rfl (hb hby at_235) rfl (decide_eq_true rfl) (by decide) (by decide) ?_
    show Steps p.tables e below (T35.setTop (mkF m 238 #[vI p0, vI p1, vI p2, vI p3, vI (2 : Int32), vR b_27, vR b21, vI (7 : Int32), vI ((6 : Int32) + ((p1 &&& (2147483647 : Int32)) % (3 : Int32))), vI pp, vI c3] [])) _
    refine XS.iconst X35.here hx rfl (hb hby at_238) ?_
    refine XS.goto X35.here hx rfl (pc0 := 239) (pc' := 243) rfl (hb hby at_239) (by decide) (by decide) ?_
    show Steps p.tables e below (T35.setTop (mkF m 243 #[vI p0, vI p1, vI p2, vI p3, vI (2 : Int32), vR b_27, vR b21, vI (7 : Int32), vI ((6 : Int32) + ((p1 &&& (2147483647 : Int32)) % (3 : Int32))), vI pp, vI c3] [(.int (1 : Int32))])) _
    exact retN X35 hx (t := .boolean) Bd.returns (by simp) (hb hby at_243) hr
  · show Q0k2 Z w_VALUES k_VALUES w_H2 w_POSTGRESQL w_MARIADB w_COMPACT_STRINGS w_SIOOBE_FORMATTER pv_H2 pv_POSTGRESQL pv_MARIADB pp c3 p0 p1 p2 p3 h0 n0 _ T35.heap _
    exact ⟨rfl, N35⟩
def Q0k3r0 (Z : State) (w_VALUES : Addr) (k_VALUES : ClassId) (w_H2 : Addr) (w_POSTGRESQL : Addr) (w_MARIADB : Addr) (w_COMPACT_STRINGS : Int32) (w_SIOOBE_FORMATTER : Value) (pv_H2 : Addr) (pv_POSTGRESQL : Addr) (pv_MARIADB : Addr) (c0 : Int32) (c1 : Int32) (c2 : Int32) (p0 : Int32) (p1 : Int32) (p2 : Int32) (p3 : Int32) (h0 : Heap) (n0 : Nat) (v : Option Value) (h : Heap) (L : List Loc) : Prop := v = some (.int (1 : Int32)) ∧ Fr n0 L
set_option maxRecDepth 65536 in
set_option maxHeartbeats 40000000 in
theorem rm0k3r0 (l : Launch) (Z : State) (A0 : Array Value) (hw : ∀ d ∈ tables_1, d.before A0 Z = true) (ws : List Jvm.Cond) (w_VALUES : Addr) (k_VALUES : ClassId) (w_H2 : Addr) (w_POSTGRESQL : Addr) (w_MARIADB : Addr) (w_COMPACT_STRINGS : Int32) (w_SIOOBE_FORMATTER : Value) (pv_H2 : Addr) (pv_POSTGRESQL : Addr) (pv_MARIADB : Addr) (c0 : Int32) (c1 : Int32) (c2 : Int32) (p0 : Int32) (p1 : Int32) (p2 : Int32) (p3 : Int32) (h0 : Heap) (n0 : Nat) (OLD : Old Z n0 h0) (f_1 : Sta Z Z.heap "com/example/seshat/seshat/jpql/Database" "$VALUES" "[Lcom/example/seshat/seshat/jpql/Database;" (.ref w_VALUES)) (f_2 : Exa Z Z.heap w_VALUES "[Lcom/example/seshat/seshat/jpql/Database;") (f_3 : Arv Z Z.heap w_VALUES k_VALUES (.object "com/example/seshat/seshat/jpql/Database") (3 : Int32) [(.ref w_H2), (.ref w_POSTGRESQL), (.ref w_MARIADB)] .null) (f_4 : Sta Z Z.heap "java/lang/String" "COMPACT_STRINGS" "Z" (.int w_COMPACT_STRINGS)) (c_5 : ¬ (w_COMPACT_STRINGS = (0 : Int32))) (f_6 : Sta Z Z.heap "jdk/internal/util/Preconditions" "SIOOBE_FORMATTER" "Ljava/util/function/BiFunction;" w_SIOOBE_FORMATTER) (c_7 : w_SIOOBE_FORMATTER.isRef = true) (f_8 : Fld Z Z.heap w_H2 "com/example/seshat/seshat/jpql/Database" "propertyValue" "Ljava/lang/String;" (.ref pv_H2)) (f_9 : Fld Z Z.heap w_POSTGRESQL "com/example/seshat/seshat/jpql/Database" "propertyValue" "Ljava/lang/String;" (.ref pv_POSTGRESQL)) (f_10 : Fld Z Z.heap w_MARIADB "com/example/seshat/seshat/jpql/Database" "propertyValue" "Ljava/lang/String;" (.ref pv_MARIADB)) (f_11 : own_Txt Z Z.heap pv_H2 ([104, 50] : List Int32)) (f_12 : own_Txt Z Z.heap pv_POSTGRESQL ([112, 111, 115, 116, 103, 114, 101, 115, 113, 108] : List Int32)) (f_13 : own_Txt Z Z.heap pv_MARIADB ([109, 97, 114, 105, 97, 100, 98] : List Int32)) (f_14 : Sta Z Z.heap "com/example/seshat/seshat/jpql/Database" "H2" "Lcom/example/seshat/seshat/jpql/Database;" (.ref w_H2)) (f_15 : Sta Z Z.heap "com/example/seshat/seshat/jpql/Database" "POSTGRESQL" "Lcom/example/seshat/seshat/jpql/Database;" (.ref w_POSTGRESQL)) (f_16 : Sta Z Z.heap "com/example/seshat/seshat/jpql/Database" "MARIADB" "Lcom/example/seshat/seshat/jpql/Database;" (.ref w_MARIADB)) (c_17 : own_B c0) (c_18 : own_B c1) (c_19 : own_B c2) (c_20 : ((p0 &&& (2147483647 : Int32)) % (4 : Int32)) = (3 : Int32)) (c_21 : (((p1.toUInt32 >>> ((1 : Int32) &&& 31).toUInt32).toInt32) &&& (3 : Int32)) = (0 : Int32)) (c_22 : ((p2 &&& (255 : Int32)).toUInt32.toUInt16.toUInt32.toInt32) = c0) (c_23 : ((((p2.toUInt32 >>> ((8 : Int32) &&& 31).toUInt32).toInt32) &&& (255 : Int32)).toUInt32.toUInt16.toUInt32.toInt32) = c1) (c_24 : ((((p2.toUInt32 >>> ((16 : Int32) &&& 31).toUInt32).toInt32) &&& (255 : Int32)).toUInt32.toUInt16.toUInt32.toInt32) = c2) :
    MetFree l x (head1 (Jvm.Cond.code x code maxLocals ret :: ws) room_1) (fun a U => a = #[(.int p0), (.int p1), (.int p2), (.int p3)] ∧ Z.Warmed39 U.vm ∧ U.heap = h0 ∧ CHv Z consts_1 U.vm h0) (fun _ _ _ _ _ => True) (fun _ U o U' => ∃ v L, o = .returned v ∧ Q0k3r0 Z w_VALUES k_VALUES w_H2 w_POSTGRESQL w_MARIADB w_COMPACT_STRINGS w_SIOOBE_FORMATTER pv_H2 pv_POSTGRESQL pv_MARIADB c0 c1 c2 p0 p1 p2 p3 h0 n0 v U'.heap L ∧ CHr Z consts_1 U.vm U.heap U'.vm U'.heap ∧ ReturnedEndW U o U' L room_1.cells room_1.slots) := by
  refine MetFree.of_bodySF (plainFor_of_name pn_com_example_seshat_seshat_jpql_DatabaseNamedPinLaw) hisR ?_
  intro p e s m args below meth c s₁ Bd hml0 hP hK
  obtain ⟨rfl, hZ, hh, hCH⟩ := hP
  have hx := Bd.exec
  have hby := Bd.bytes
  have hml : c.maxLocals = 11 := hml0
  have hown : s.vm.findClass "com/example/seshat/seshat/jpql/DatabaseNamedPinLaw" = some m.cls := findClass_of_methodNamed Bd.named
  have hnm := (name_of_methodNamed Bd.named Bd.method).1
  have X0 : Stand p l e room_1 (s.setVm s.vm) m #[(.int p0), (.int p1), (.int p2), (.int p3)] below meth c s₁ [] 0 0 := Stand.of_body Bd
  have e0 : s₁.heap = h0 := by rw [← hh, Bd.state]; rfl
  have hS0 : s.Since s.vm h0.size := (State.WarmedH.refl s).since _
  have hk0 : h0.size ≤ h0.size := Nat.le_refl _
  have hZ : Z.Warmed39 (s.setVm s.vm).vm := hZ
  have hown : (s.setVm s.vm).vm.findClass "com/example/seshat/seshat/jpql/DatabaseNamedPinLaw" = some m.cls := hown
  have CH0 : CHr Z consts_1 (s.setVm s.vm).vm h0 (s.setVm s.vm).vm h0 := CHr.refl hCH
  have N0 := Fr.nil n0
  have pre0 : ∀ t, Steps p.tables e below (s₁.setTop (mkF m 0 #[vI p0, vI p1, vI p2, vI p3, .unset, .unset, .unset, .unset, .unset, .unset, .unset] [])) t → Steps p.tables e below (s₁.setTop (entryFrame m #[(.int p0), (.int p1), (.int p2), (.int p3)] maxLocals)) t := fun t k => castTop (ef_0 m p0 p1 p2 p3) k
  obtain ⟨T25, h25, X25, e25, E25, A25, D25, M25, st25⟩ := newO X0 hx hZ hown (hw _ (List.mem_of_getElem? (i := 106) rfl)) (hw _ (List.mem_of_getElem? (i := 3) rfl)) (hw _ (List.mem_of_getElem? (i := 2) rfl)) e0 (g := (mkF m 56 #[vI p0, vI p1, vI p2, vI p3, vI (3 : Int32), .unset, vI (0 : Int32), vI c0, vI c1, vI c2, .unset] [])) rfl (hb hby at_56) (by decide) (by decide)
  obtain ⟨b25, g25⟩ : ∃ z, z = h0.size := ⟨_, rfl⟩
  rw [← g25] at A25 D25 M25 st25
  have K_26 : Keep h0 h25 [] := (Keep.refl h0 []).ext E25
  have CH_27 := CH0.trans (CHr.ext E25 CH0.1)
  have f_28 : Fld Z h25 b25 "java/lang/String" "value" "[B" .null := (D25 (Or.inr (hw _ (List.mem_of_getElem? (i := 5) rfl))) (ty := (.array .byte)) (by decide))
  have f_29 : Fld Z h25 b25 "java/lang/String" "coder" "B" (.int (0 : Int32)) := (D25 (Or.inr (hw _ (List.mem_of_getElem? (i := 6) rfl))) (ty := .byte) (by decide))
  obtain ⟨T30, h30, k30, X30, e30, E30, A30, st30⟩ := newP X25 hx hZ (hw _ (List.mem_of_getElem? (i := 107) rfl)) e25 (g := (mkF m 61 #[vI p0, vI p1, vI p2, vI p3, vI (3 : Int32), .unset, vI (0 : Int32), vI c0, vI c1, vI c2, .unset] [(.int (0 : Int32)), (.ref b25), (.ref b25)])) rfl (hb hby at_61) rfl (by decide) (cap := 0) (by decide) (by decide) (by decide) (by decide)
  obtain ⟨b30, g30⟩ : ∃ z, z = h25.size := ⟨_, rfl⟩
  rw [← g30] at A30 st30
  have K_31 : Keep h0 h30 [] := K_26.ext E30
  have CH_32 := CH_27.trans (CHr.ext E30 CH_27.1)
  have f_33 : Arv Z h30 b30 k30 .char (0 : Int32) [] (.int (0 : Int32)) := Arv.new A30 (by decide)
  have f_34 := A25.ext E30
  have f_35 := f_28.ext E30
  have f_36 := f_29.ext E30
  have ge_37 : n0 ≤ b25 := own_ge OLD (Nat.le_of_eq g25.symm)
  have O_39 := Old.ext OLD E25
  have O_40 := Old.ext O_39 E30
  obtain ⟨_, _, ⟨T38, L38, k38, n38⟩, -, X38, hS38q, hg38q, ⟨Lc38, hQ38, l38, y38, z38, C38⟩, st38⟩ := X30.specialBackS hx (y := (⟨"java/lang/String", "<init>", "([C)V"⟩ : MethodName)) rfl hown (mvT hZ (hw _ (List.mem_of_getElem? (i := 108) rfl))) (mvT hZ (hw _ (List.mem_of_getElem? (i := 109) rfl))) (mvT hZ (hw _ (List.mem_of_getElem? (i := 110) rfl))) (by decide) (backOfSH (W := 1) (rm20e l Z A0 hw [] k30 b25 b30 h30 n0 O_40 f_34 f_35 f_36 f_33 ge_37) hZ (hw _ (List.mem_of_getElem? (i := 110) rfl)) (hw _ (List.mem_of_getElem? (i := 2) rfl)) (by decide) (by decide) (own_EW hw) CH_32.1) (g := (mkF m 63 #[vI p0, vI p1, vI p2, vI p3, vI (3 : Int32), .unset, vI (0 : Int32), vI c0, vI c1, vI c2, .unset] [(.ref b30), (.ref b25), (.ref b25)])) rfl (by rw [hml]; rfl) (Steps.refl _) (a := b25) (argsL := [(.ref b30)]) (rest := [(.ref b25)]) (lenOf pd_7 rfl) rfl (by show 2 * 0 + _ ≤ _; exact Nat.le_of_eq rfl) (hb hby at_63) (fun _ _ => ⟨rfl, e30, (by decide : 2 + 4 ≤ _), (by decide : 4 + 10 ≤ _)⟩)
  dsimp only [Pt.U, Pt.locs, Pt.cells, Pt.slots] at X38 l38 y38 z38 st38 hQ38
  subst l38 y38 z38
  dsimp only [Pt.U, Pt.locs, Pt.cells, Pt.slots] at hS38q hg38q
  have hS38 := foldS (T := T30) hS0 (by rw [e30]; exact (Nat.le_trans (Nat.le_trans hk0 E25.1) E30.1)) hS38q hg38q
  have hZ38 : Z.Warmed39 (s.setVm T38.vm).vm := State.Warmed39.trans (t := s.setVm _) hZ hS38q.1
  have hown38 : (s.setVm T38.vm).vm.findClass "com/example/seshat/seshat/jpql/DatabaseNamedPinLaw" = some m.cls := by rw [show (s.setVm T38.vm).vm = T38.vm from rfl, hS38q.1.alike.findClass]; exact hown
  have X38 : Stand p l e room_1 (s.setVm T38.vm) m _ below meth c T38 _ _ _ := X38
  dsimp only [Pt.U] at C38
  obtain ⟨rfl, N38q, K38, g38_0⟩ := hQ38
  have N38 := Fr.app N0 N38q
  have K_41 : Keep h0 T38.heap [] := Keep.trans K_31 K38 (allS (Or.inr (Nat.le_trans (Keep.refl h0 []).1 (Nat.le_of_eq g25.symm))) all0)
  have CH_42 := CH_32.trans C38
  have O_43 := Old.keep O_40 K38 (allS ge_37 all0)
  obtain ⟨_, _, ⟨T44, L44, k44, n44⟩, -, X44, ⟨Lc44, hQ44, l44, y44, z44⟩, st44⟩ := Jvm.LawKit.callS X38 hx (y := (⟨"com/example/seshat/seshat/jpql/Database", "named", "(Ljava/lang/String;)Lcom/example/seshat/seshat/jpql/Database;"⟩ : MethodName)) hown38 (mvT hZ38 (hw _ (List.mem_of_getElem? (i := 68) rfl))) (mvT hZ38 (hw _ (List.mem_of_getElem? (i := 69) rfl))) (mvT hZ38 (hw _ (List.mem_of_getElem? (i := 70) rfl))) (mvT hZ38 (hw _ (List.mem_of_getElem? (i := 71) rfl))) (by decide) (backOf (W := 0) (rm15 l Z A0 hw [] w_VALUES k_VALUES w_H2 w_POSTGRESQL w_MARIADB ([] : List Int32) w_COMPACT_STRINGS pv_H2 pv_POSTGRESQL pv_MARIADB b25 T38.heap n0 O_43 f_1 f_2 f_3 g38_0 f_4 c_5 f_8 f_9 f_10 f_11 f_12 f_13) hZ38 (hw _ (List.mem_of_getElem? (i := 71) rfl)) (hw _ (List.mem_of_getElem? (i := 70) rfl)) (by decide) (by decide)) (g := (mkF m 227 #[vI p0, vI p1, vI p2, vI p3, vI (3 : Int32), vR b25, vI (0 : Int32), vI c0, vI c1, vI c2, .unset] [(.ref b25)])) rfl (by rw [hml]; rfl) (argsL := [(.ref b25)]) (rest := []) (lenOf pd_12 rfl) rfl (by show 2 * 0 + _ ≤ _; exact Nat.le_of_eq rfl) (hb hby at_227) (fun _ _ => ⟨rfl, rfl, (by decide : 6 + 1 ≤ _), (by decide : 14 + 3 ≤ _)⟩)
  dsimp only [Pt.U, Pt.locs, Pt.cells, Pt.slots] at X44 l44 y44 z44 st44 hQ44
  subst l44 y44 z44
  obtain ⟨rfl, N44q, K44⟩ := hQ44
  have N44 := Fr.app N38 N44q
  have K_45 : Keep h0 T44.heap [] := Keep.trans K_41 K44 all0
  have CH_46 := CH_42.trans (CHr.keep K44 sf0 CH_42.1)
  have f_47 := g38_0.keep0 K44
  have O_49 := Old.keep O_43 K44 all0
  obtain ⟨_, _, ⟨T48, L48, k48, n48⟩, -, X48, hS48q, hg48q, ⟨Lc48, hQ48, l48, y48, z48, C48⟩, st48⟩ := callSS X44 hx (y := (⟨"com/example/seshat/seshat/jpql/DatabaseNamedPinLaw", "expected", "(Ljava/lang/String;)Lcom/example/seshat/seshat/jpql/Database;"⟩ : MethodName)) hown38 (mvT hZ38 (hw _ (List.mem_of_getElem? (i := 100) rfl))) (mvT hZ38 (hw _ (List.mem_of_getElem? (i := 101) rfl))) (mvT hZ38 (hw _ (List.mem_of_getElem? (i := 24) rfl))) (mvT hZ38 (hw _ (List.mem_of_getElem? (i := 102) rfl))) (by decide) (backOfSH (W := 1) (rm19 l Z A0 hw [] ([] : List Int32) w_COMPACT_STRINGS w_H2 w_POSTGRESQL w_MARIADB b25 T44.heap n0 O_49 f_47 f_4 c_5 f_14 f_15 f_16) hZ38 (hw _ (List.mem_of_getElem? (i := 102) rfl)) (hw _ (List.mem_of_getElem? (i := 24) rfl)) (by decide) (by decide) (own_EW hw) CH_46.1) (g := (mkF m 232 #[vI p0, vI p1, vI p2, vI p3, vI (3 : Int32), vR b25, vI (0 : Int32), vI c0, vI c1, vI c2, .unset] [(.ref b25), (own_db ([] : List Int32) w_H2 w_POSTGRESQL w_MARIADB)])) rfl (by rw [hml]; rfl) (argsL := [(.ref b25)]) (rest := [(own_db ([] : List Int32) w_H2 w_POSTGRESQL w_MARIADB)]) (lenOf pd_12 rfl) rfl (by show 2 * 0 + _ ≤ _; simp [own_dbC]) (hb hby at_232) (fun _ _ => ⟨rfl, rfl, (by decide : 7 + 6 ≤ _), (by decide : 17 + 100 ≤ _)⟩)
  dsimp only [Pt.U, Pt.locs, Pt.cells, Pt.slots] at X48 l48 y48 z48 st48 hQ48
  subst l48 y48 z48
  dsimp only [Pt.U, Pt.locs, Pt.cells, Pt.slots] at hS48q hg48q
  have hS48 := foldS (T := T44) hS38 (Nat.le_trans (Nat.le_refl _) K44.1) hS48q hg48q
  have hZ48 : Z.Warmed39 (s.setVm T48.vm).vm := State.Warmed39.trans (t := s.setVm _) hZ38 hS48q.1
  have hown48 : (s.setVm T48.vm).vm.findClass "com/example/seshat/seshat/jpql/DatabaseNamedPinLaw" = some m.cls := by rw [show (s.setVm T48.vm).vm = T48.vm from rfl, hS48q.1.alike.findClass]; exact hown38
  have X48 : Stand p l e room_1 (s.setVm T48.vm) m _ below meth c T48 _ _ _ := X48
  dsimp only [Pt.U] at C48
  obtain ⟨rfl, N48q, K48⟩ := hQ48
  have N48 := Fr.app N44 N48q
  have K_50 : Keep h0 T48.heap [] := Keep.trans K_45 K48 all0
  have CH_51 := CH_46.trans C48
  obtain ⟨fs, hr, hrun, hended, hRW⟩ := X48.leaveW (s := s) hS48 (Nat.le_refl _) (v := some (.int (1 : Int32))) (fun h => by rw [Bd.returns] at h; cases h)
  refine ⟨_, _, pre0 _ ?_, hrun, hended, _, _, rfl, ?_, (by have q := CH_51.trans (CHv.at X48 hZ48 (own_EW hw) CH_51.1); rw [hh]; show CHr Z consts_1 s.vm h0 T48.vm T48.heap; exact q), hRW.1, hRW.2.1, hRW.2.2.1, hRW.2.2.2.mono (by decide) (by decide)⟩
  · show Steps p.tables e below (s₁.setTop (mkF m 0 #[vI p0, vI p1, vI p2, vI p3, .unset, .unset, .unset, .unset, .unset, .unset, .unset] [])) _
    refine XS.iloadN X0.here hx rfl (hb hby at_0) rfl ?_
    refine X0.ldcInt hx hown (mvT hZ (hw _ (List.mem_of_getElem? (i := 0) rfl))) (g := (mkF m 1 #[vI p0, vI p1, vI p2, vI p3, .unset, .unset, .unset, .unset, .unset, .unset, .unset] [(.int p0)])) rfl (hb hby at_1) _ ?_
    show Steps p.tables e below (s₁.setTop (mkF m 3 #[vI p0, vI p1, vI p2, vI p3, .unset, .unset, .unset, .unset, .unset, .unset, .unset] [(.int (2147483647 : Int32)), (.int p0)])) _
    refine XS.iand X0.here hx rfl (hb hby at_3) rfl ?_
    refine XS.iconst X0.here hx rfl (hb hby at_4) ?_
    show Steps p.tables e below (s₁.setTop (mkF m 5 #[vI p0, vI p1, vI p2, vI p3, .unset, .unset, .unset, .unset, .unset, .unset, .unset] [(.int (4 : Int32)), (.int (p0 &&& (2147483647 : Int32)))])) _
    refine iremM (g := (mkF m 5 #[vI p0, vI p1, vI p2, vI p3, .unset, .unset, .unset, .unset, .unset, .unset, .unset] [(.int (4 : Int32)), (.int (p0 &&& (2147483647 : Int32)))])) X0 hx rfl (hb hby at_5) rfl (by decide) ?_
    show Steps p.tables e below (s₁.setTop (mkF m 6 #[vI p0, vI p1, vI p2, vI p3, .unset, .unset, .unset, .unset, .unset, .unset, .unset] [(.int ((p0 &&& (2147483647 : Int32)) % (4 : Int32)))])) _
    rw [c_20]
    show Steps p.tables e below (s₁.setTop (mkF m 6 #[vI p0, vI p1, vI p2, vI p3, .unset, .unset, .unset, .unset, .unset, .unset, .unset] [(.int (3 : Int32))])) _
    refine XS.istore X0.here hx rfl (hb hby at_6) rfl (l' := #[vI p0, vI p1, vI p2, vI p3, vI (3 : Int32), .unset, .unset, .unset, .unset, .unset, .unset]) rfl ?_
    refine XS.iload X0.here hx rfl (hb hby at_8) rfl ?_
    show Steps p.tables e below (s₁.setTop (mkF m 10 #[vI p0, vI p1, vI p2, vI p3, vI (3 : Int32), .unset, .unset, .unset, .unset, .unset, .unset] [(.int (3 : Int32))])) _
    refine XS.iconst X0.here hx rfl (hb hby at_10) ?_
    refine XS.icmpNo X0.here hx rfl (hb hby at_11) rfl (teq (by decide : (3 : Int32) = (3 : Int32))).2 ?_
    show Steps p.tables e below (s₁.setTop (mkF m 14 #[vI p0, vI p1, vI p2, vI p3, vI (3 : Int32), .unset, .unset, .unset, .unset, .unset, .unset] [])) _
    refine XS.iloadN X0.here hx rfl (hb hby at_14) rfl ?_
    refine XS.iconst X0.here hx rfl (hb hby at_15) ?_
    show Steps p.tables e below (s₁.setTop (mkF m 16 #[vI p0, vI p1, vI p2, vI p3, vI (3 : Int32), .unset, .unset, .unset, .unset, .unset, .unset] [(.int (1 : Int32)), (.int p1)])) _
    refine XS.iushr X0.here hx rfl (hb hby at_16) rfl ?_
    refine XS.iconst X0.here hx rfl (hb hby at_17) ?_
    show Steps p.tables e below (s₁.setTop (mkF m 18 #[vI p0, vI p1, vI p2, vI p3, vI (3 : Int32), .unset, .unset, .unset, .unset, .unset, .unset] [(.int (3 : Int32)), (.int ((p1.toUInt32 >>> ((1 : Int32) &&& 31).toUInt32).toInt32))])) _
    refine XS.iand X0.here hx rfl (hb hby at_18) rfl ?_
    show Steps p.tables e below (s₁.setTop (mkF m 19 #[vI p0, vI p1, vI p2, vI p3, vI (3 : Int32), .unset, .unset, .unset, .unset, .unset, .unset] [(.int (((p1.toUInt32 >>> ((1 : Int32) &&& 31).toUInt32).toInt32) &&& (3 : Int32)))])) _
    rw [c_21]
    show Steps p.tables e below (s₁.setTop (mkF m 19 #[vI p0, vI p1, vI p2, vI p3, vI (3 : Int32), .unset, .unset, .unset, .unset, .unset, .unset] [(.int (0 : Int32))])) _
    refine XS.istore X0.here hx rfl (hb hby at_19) rfl (l' := #[vI p0, vI p1, vI p2, vI p3, vI (3 : Int32), .unset, vI (0 : Int32), .unset, .unset, .unset, .unset]) rfl ?_
    refine XS.iloadN X0.here hx rfl (hb hby at_21) rfl ?_
    show Steps p.tables e below (s₁.setTop (mkF m 22 #[vI p0, vI p1, vI p2, vI p3, vI (3 : Int32), .unset, vI (0 : Int32), .unset, .unset, .unset, .unset] [(.int p2)])) _
    refine XS.sipush X0.here hx rfl (hb hby at_22) ?_
    refine XS.iand X0.here hx rfl (hb hby at_25) rfl ?_
    show Steps p.tables e below (s₁.setTop (mkF m 26 #[vI p0, vI p1, vI p2, vI p3, vI (3 : Int32), .unset, vI (0 : Int32), .unset, .unset, .unset, .unset] [(.int (p2 &&& (255 : Int32)))])) _
    refine XS.i2c X0.here hx rfl (hb hby at_26) rfl ?_
    show Steps p.tables e below (s₁.setTop (mkF m 27 #[vI p0, vI p1, vI p2, vI p3, vI (3 : Int32), .unset, vI (0 : Int32), .unset, .unset, .unset, .unset] [(.int ((p2 &&& (255 : Int32)).toUInt32.toUInt16.toUInt32.toInt32))])) _
    rw [c_22]
    show Steps p.tables e below (s₁.setTop (mkF m 27 #[vI p0, vI p1, vI p2, vI p3, vI (3 : Int32), .unset, vI (0 : Int32), .unset, .unset, .unset, .unset] [(.int c0)])) _
    refine XS.istore X0.here hx rfl (hb hby at_27) rfl (l' := #[vI p0, vI p1, vI p2, vI p3, vI (3 : Int32), .unset, vI (0 : Int32), vI c0, .unset, .unset, .unset]) rfl ?_
    refine XS.iloadN X0.here hx rfl (hb hby at_29) rfl ?_
    show Steps p.tables e below (s₁.setTop (mkF m 30 #[vI p0, vI p1, vI p2, vI p3, vI (3 : Int32), .unset, vI (0 : Int32), vI c0, .unset, .unset, .unset] [(.int p2)])) _
    refine XS.bipush X0.here hx rfl (hb hby at_30) ?_
    refine XS.iushr X0.here hx rfl (hb hby at_32) rfl ?_
    show Steps p.tables e below (s₁.setTop (mkF m 33 #[vI p0, vI p1, vI p2, vI p3, vI (3 : Int32), .unset, vI (0 : Int32), vI c0, .unset, .unset, .unset] [(.int ((p2.toUInt32 >>> ((8 : Int32) &&& 31).toUInt32).toInt32))])) _
    refine XS.sipush X0.here hx rfl (hb hby at_33) ?_
    refine XS.iand X0.here hx rfl (hb hby at_36) rfl ?_
    show Steps p.tables e below (s₁.setTop (mkF m 37 #[vI p0, vI p1, vI p2, vI p3, vI (3 : Int32), .unset, vI (0 : Int32), vI c0, .unset, .unset, .unset] [(.int (((p2.toUInt32 >>> ((8 : Int32) &&& 31).toUInt32).toInt32) &&& (255 : Int32)))])) _
    refine XS.i2c X0.here hx rfl (hb hby at_37) rfl ?_
    show Steps p.tables e below (s₁.setTop (mkF m 38 #[vI p0, vI p1, vI p2, vI p3, vI (3 : Int32), .unset, vI (0 : Int32), vI c0, .unset, .unset, .unset] [(.int ((((p2.toUInt32 >>> ((8 : Int32) &&& 31).toUInt32).toInt32) &&& (255 : Int32)).toUInt32.toUInt16.toUInt32.toInt32))])) _
    rw [c_23]
    show Steps p.tables e below (s₁.setTop (mkF m 38 #[vI p0, vI p1, vI p2, vI p3, vI (3 : Int32), .unset, vI (0 : Int32), vI c0, .unset, .unset, .unset] [(.int c1)])) _
    refine XS.istore X0.here hx rfl (hb hby at_38) rfl (l' := #[vI p0, vI p1, vI p2, vI p3, vI (3 : Int32), .unset, vI (0 : Int32), vI c0, vI c1, .unset, .unset]) rfl ?_
    refine XS.iloadN X0.here hx rfl (hb hby at_40) rfl ?_
    show Steps p.tables e below (s₁.setTop (mkF m 41 #[vI p0, vI p1, vI p2, vI p3, vI (3 : Int32), .unset, vI (0 : Int32), vI c0, vI c1, .unset, .unset] [(.int p2)])) _
    refine XS.bipush X0.here hx rfl (hb hby at_41) ?_
    refine XS.iushr X0.here hx rfl (hb hby at_43) rfl ?_
    show Steps p.tables e below (s₁.setTop (mkF m 44 #[vI p0, vI p1, vI p2, vI p3, vI (3 : Int32), .unset, vI (0 : Int32), vI c0, vI c1, .unset, .unset] [(.int ((p2.toUInt32 >>> ((16 : Int32) &&& 31).toUInt32).toInt32))])) _
    refine XS.sipush X0.here hx rfl (hb hby at_44) ?_
    refine XS.iand X0.here hx rfl (hb hby at_47) rfl ?_
    show Steps p.tables e below (s₁.setTop (mkF m 48 #[vI p0, vI p1, vI p2, vI p3, vI (3 : Int32), .unset, vI (0 : Int32), vI c0, vI c1, .unset, .unset] [(.int (((p2.toUInt32 >>> ((16 : Int32) &&& 31).toUInt32).toInt32) &&& (255 : Int32)))])) _
    refine XS.i2c X0.here hx rfl (hb hby at_48) rfl ?_
    show Steps p.tables e below (s₁.setTop (mkF m 49 #[vI p0, vI p1, vI p2, vI p3, vI (3 : Int32), .unset, vI (0 : Int32), vI c0, vI c1, .unset, .unset] [(.int ((((p2.toUInt32 >>> ((16 : Int32) &&& 31).toUInt32).toInt32) &&& (255 : Int32)).toUInt32.toUInt16.toUInt32.toInt32))])) _
    rw [c_24]
    show Steps p.tables e below (s₁.setTop (mkF m 49 #[vI p0, vI p1, vI p2, vI p3, vI (3 : Int32), .unset, vI (0 : Int32), vI c0, vI c1, .unset, .unset] [(.int c2)])) _
    refine XS.istore X0.here hx rfl (hb hby at_49) rfl (l' := #[vI p0, vI p1, vI p2, vI p3, vI (3 : Int32), .unset, vI (0 : Int32), vI c0, vI c1, vI c2, .unset]) rfl ?_
    refine XS.iload X0.here hx rfl (hb hby at_51) rfl ?_
    show Steps p.tables e below (s₁.setTop (mkF m 53 #[vI p0, vI p1, vI p2, vI p3, vI (3 : Int32), .unset, vI (0 : Int32), vI c0, vI c1, vI c2, .unset] [(.int (0 : Int32))])) _
    refine XS.ifNo X0.here hx rfl (hb hby at_53) rfl ((if0 _ _).trans (teq (by decide : (0 : Int32) = (0 : Int32))).2) ?_
    refine st25 _ ?_
    show Steps p.tables e below (T25.setTop (mkF m 59 #[vI p0, vI p1, vI p2, vI p3, vI (3 : Int32), .unset, vI (0 : Int32), vI c0, vI c1, vI c2, .unset] [(.ref b25)])) _
    refine XS.dup X25.here hx rfl (hb hby at_59) rfl rfl ?_
    refine XS.iconst X25.here hx rfl (hb hby at_60) ?_
    show Steps p.tables e below (T25.setTop (mkF m 61 #[vI p0, vI p1, vI p2, vI p3, vI (3 : Int32), .unset, vI (0 : Int32), vI c0, vI c1, vI c2, .unset] [(.int (0 : Int32)), (.ref b25), (.ref b25)])) _
    refine st30 _ ?_
    refine st38.trans ?_
    show Steps p.tables e below (T38.setTop (mkF m 66 #[vI p0, vI p1, vI p2, vI p3, vI (3 : Int32), .unset, vI (0 : Int32), vI c0, vI c1, vI c2, .unset] [(.ref b25)])) _
    refine XS.astore X38.here hx rfl (hb hby at_66) rfl rfl (l' := #[vI p0, vI p1, vI p2, vI p3, vI (3 : Int32), vR b25, vI (0 : Int32), vI c0, vI c1, vI c2, .unset]) rfl ?_
    refine XS.goto X38.here hx rfl (pc0 := 68) (pc' := 145) rfl (hb hby at_68) (by decide) (by decide) ?_
    show Steps p.tables e below (T38.setTop (mkF m 145 #[vI p0, vI p1, vI p2, vI p3, vI (3 : Int32), vR b25, vI (0 : Int32), vI c0, vI c1, vI c2, .unset] [])) _
    refine XS.goto X38.here hx rfl (pc0 := 145) (pc' := 225) rfl (hb hby at_145) (by decide) (by decide) ?_
    refine XS.aload X38.here hx rfl (hb hby at_225) rfl rfl ?_
    show Steps p.tables e below (T38.setTop (mkF m 227 #[vI p0, vI p1, vI p2, vI p3, vI (3 : Int32), vR b25, vI (0 : Int32), vI c0, vI c1, vI c2, .unset] [(.ref b25)])) _
    refine st44 _ ?_
    refine XS.aload X44.here hx rfl (hb hby at_230) rfl rfl ?_
    show Steps p.tables e below (T44.setTop (mkF m 232 #[vI p0, vI p1, vI p2, vI p3, vI (3 : Int32), vR b25, vI (0 : Int32), vI c0, vI c1, vI c2, .unset] [(.ref b25), (own_db ([] : List Int32) w_H2 w_POSTGRESQL w_MARIADB)])) _
    refine st48.trans ?_
    refine Jvm.RoadKit.acmp (g := (mkF m 235 #[vI p0, vI p1, vI p2, vI p3, vI (3 : Int32), vR b25, vI (0 : Int32), vI c0, vI c1, vI c2, .unset] [(own_db ([] : List Int32) w_H2 w_POSTGRESQL w_MARIADB), (own_db ([] : List Int32) w_H2 w_POSTGRESQL w_MARIADB)])) X48 hx rfl (own_dbR _ _ _ _) (own_dbR _ _ _ _) (pc0 := 235) (pc' := 238) (same := true) rfl (hb hby at_235) rfl (decide_eq_true rfl) (by decide) (by decide) ?_
    show Steps p.tables e below (T48.setTop (mkF m 238 #[vI p0, vI p1, vI p2, vI p3, vI (3 : Int32), vR b25, vI (0 : Int32), vI c0, vI c1, vI c2, .unset] [])) _
    refine XS.iconst X48.here hx rfl (hb hby at_238) ?_
    refine XS.goto X48.here hx rfl (pc0 := 239) (pc' := 243) rfl (hb hby at_239) (by decide) (by decide) ?_
    show Steps p.tables e below (T48.setTop (mkF m 243 #[vI p0, vI p1, vI p2, vI p3, vI (3 : Int32), vR b25, vI (0 : Int32), vI c0, vI c1, vI c2, .unset] [(.int (1 : Int32))])) _
    exact retN X48 hx (t := .boolean) Bd.returns (by simp) (hb hby at_243) hr
  · show Q0k3r0 Z w_VALUES k_VALUES w_H2 w_POSTGRESQL w_MARIADB w_COMPACT_STRINGS w_SIOOBE_FORMATTER pv_H2 pv_POSTGRESQL pv_MARIADB c0 c1 c2 p0 p1 p2 p3 h0 n0 _ T48.heap _
    exact ⟨rfl, N48⟩
def Q0k3r1 (Z : State) (w_VALUES : Addr) (k_VALUES : ClassId) (w_H2 : Addr) (w_POSTGRESQL : Addr) (w_MARIADB : Addr) (w_COMPACT_STRINGS : Int32) (w_SIOOBE_FORMATTER : Value) (pv_H2 : Addr) (pv_POSTGRESQL : Addr) (pv_MARIADB : Addr) (c0 : Int32) (c1 : Int32) (c2 : Int32) (p0 : Int32) (p1 : Int32) (p2 : Int32) (p3 : Int32) (h0 : Heap) (n0 : Nat) (v : Option Value) (h : Heap) (L : List Loc) : Prop := v = some (.int (1 : Int32)) ∧ Fr n0 L
set_option maxRecDepth 65536 in
set_option maxHeartbeats 40000000 in
theorem rm0k3r1 (l : Launch) (Z : State) (A0 : Array Value) (hw : ∀ d ∈ tables_1, d.before A0 Z = true) (ws : List Jvm.Cond) (w_VALUES : Addr) (k_VALUES : ClassId) (w_H2 : Addr) (w_POSTGRESQL : Addr) (w_MARIADB : Addr) (w_COMPACT_STRINGS : Int32) (w_SIOOBE_FORMATTER : Value) (pv_H2 : Addr) (pv_POSTGRESQL : Addr) (pv_MARIADB : Addr) (c0 : Int32) (c1 : Int32) (c2 : Int32) (p0 : Int32) (p1 : Int32) (p2 : Int32) (p3 : Int32) (h0 : Heap) (n0 : Nat) (OLD : Old Z n0 h0) (f_1 : Sta Z Z.heap "com/example/seshat/seshat/jpql/Database" "$VALUES" "[Lcom/example/seshat/seshat/jpql/Database;" (.ref w_VALUES)) (f_2 : Exa Z Z.heap w_VALUES "[Lcom/example/seshat/seshat/jpql/Database;") (f_3 : Arv Z Z.heap w_VALUES k_VALUES (.object "com/example/seshat/seshat/jpql/Database") (3 : Int32) [(.ref w_H2), (.ref w_POSTGRESQL), (.ref w_MARIADB)] .null) (f_4 : Sta Z Z.heap "java/lang/String" "COMPACT_STRINGS" "Z" (.int w_COMPACT_STRINGS)) (c_5 : ¬ (w_COMPACT_STRINGS = (0 : Int32))) (f_6 : Sta Z Z.heap "jdk/internal/util/Preconditions" "SIOOBE_FORMATTER" "Ljava/util/function/BiFunction;" w_SIOOBE_FORMATTER) (c_7 : w_SIOOBE_FORMATTER.isRef = true) (f_8 : Fld Z Z.heap w_H2 "com/example/seshat/seshat/jpql/Database" "propertyValue" "Ljava/lang/String;" (.ref pv_H2)) (f_9 : Fld Z Z.heap w_POSTGRESQL "com/example/seshat/seshat/jpql/Database" "propertyValue" "Ljava/lang/String;" (.ref pv_POSTGRESQL)) (f_10 : Fld Z Z.heap w_MARIADB "com/example/seshat/seshat/jpql/Database" "propertyValue" "Ljava/lang/String;" (.ref pv_MARIADB)) (f_11 : own_Txt Z Z.heap pv_H2 ([104, 50] : List Int32)) (f_12 : own_Txt Z Z.heap pv_POSTGRESQL ([112, 111, 115, 116, 103, 114, 101, 115, 113, 108] : List Int32)) (f_13 : own_Txt Z Z.heap pv_MARIADB ([109, 97, 114, 105, 97, 100, 98] : List Int32)) (f_14 : Sta Z Z.heap "com/example/seshat/seshat/jpql/Database" "H2" "Lcom/example/seshat/seshat/jpql/Database;" (.ref w_H2)) (f_15 : Sta Z Z.heap "com/example/seshat/seshat/jpql/Database" "POSTGRESQL" "Lcom/example/seshat/seshat/jpql/Database;" (.ref w_POSTGRESQL)) (f_16 : Sta Z Z.heap "com/example/seshat/seshat/jpql/Database" "MARIADB" "Lcom/example/seshat/seshat/jpql/Database;" (.ref w_MARIADB)) (c_17 : own_B c0) (c_18 : own_B c1) (c_19 : own_B c2) (c_20 : ((p0 &&& (2147483647 : Int32)) % (4 : Int32)) = (3 : Int32)) (c_21 : (((p1.toUInt32 >>> ((1 : Int32) &&& 31).toUInt32).toInt32) &&& (3 : Int32)) = (1 : Int32)) (c_22 : ((p2 &&& (255 : Int32)).toUInt32.toUInt16.toUInt32.toInt32) = c0) (c_23 : ((((p2.toUInt32 >>> ((8 : Int32) &&& 31).toUInt32).toInt32) &&& (255 : Int32)).toUInt32.toUInt16.toUInt32.toInt32) = c1) (c_24 : ((((p2.toUInt32 >>> ((16 : Int32) &&& 31).toUInt32).toInt32) &&& (255 : Int32)).toUInt32.toUInt16.toUInt32.toInt32) = c2) :
    MetFree l x (head1 (Jvm.Cond.code x code maxLocals ret :: ws) room_1) (fun a U => a = #[(.int p0), (.int p1), (.int p2), (.int p3)] ∧ Z.Warmed39 U.vm ∧ U.heap = h0 ∧ CHv Z consts_1 U.vm h0) (fun _ _ _ _ _ => True) (fun _ U o U' => ∃ v L, o = .returned v ∧ Q0k3r1 Z w_VALUES k_VALUES w_H2 w_POSTGRESQL w_MARIADB w_COMPACT_STRINGS w_SIOOBE_FORMATTER pv_H2 pv_POSTGRESQL pv_MARIADB c0 c1 c2 p0 p1 p2 p3 h0 n0 v U'.heap L ∧ CHr Z consts_1 U.vm U.heap U'.vm U'.heap ∧ ReturnedEndW U o U' L room_1.cells room_1.slots) := by
  refine MetFree.of_bodySF (plainFor_of_name pn_com_example_seshat_seshat_jpql_DatabaseNamedPinLaw) hisR ?_
  intro p e s m args below meth c s₁ Bd hml0 hP hK
  obtain ⟨rfl, hZ, hh, hCH⟩ := hP
  have hx := Bd.exec
  have hby := Bd.bytes
  have hml : c.maxLocals = 11 := hml0
  have hown : s.vm.findClass "com/example/seshat/seshat/jpql/DatabaseNamedPinLaw" = some m.cls := findClass_of_methodNamed Bd.named
  have hnm := (name_of_methodNamed Bd.named Bd.method).1
  have X0 : Stand p l e room_1 (s.setVm s.vm) m #[(.int p0), (.int p1), (.int p2), (.int p3)] below meth c s₁ [] 0 0 := Stand.of_body Bd
  have e0 : s₁.heap = h0 := by rw [← hh, Bd.state]; rfl
  have hS0 : s.Since s.vm h0.size := (State.WarmedH.refl s).since _
  have hk0 : h0.size ≤ h0.size := Nat.le_refl _
  have hZ : Z.Warmed39 (s.setVm s.vm).vm := hZ
  have hown : (s.setVm s.vm).vm.findClass "com/example/seshat/seshat/jpql/DatabaseNamedPinLaw" = some m.cls := hown
  have CH0 : CHr Z consts_1 (s.setVm s.vm).vm h0 (s.setVm s.vm).vm h0 := CHr.refl hCH
  have N0 := Fr.nil n0
  have pre0 : ∀ t, Steps p.tables e below (s₁.setTop (mkF m 0 #[vI p0, vI p1, vI p2, vI p3, .unset, .unset, .unset, .unset, .unset, .unset, .unset] [])) t → Steps p.tables e below (s₁.setTop (entryFrame m #[(.int p0), (.int p1), (.int p2), (.int p3)] maxLocals)) t := fun t k => castTop (ef_0 m p0 p1 p2 p3) k
  obtain ⟨_, _, ⟨T25, L25, k25, n25⟩, -, X25, ⟨Lc25, hQ25, l25, y25, z25⟩, st25⟩ := Jvm.LawKit.callS X0 hx (y := (⟨"java/lang/String", "valueOf", "(C)Ljava/lang/String;"⟩ : MethodName)) hown (mvT hZ (hw _ (List.mem_of_getElem? (i := 51) rfl))) (mvT hZ (hw _ (List.mem_of_getElem? (i := 52) rfl))) (mvT hZ (hw _ (List.mem_of_getElem? (i := 2) rfl))) (mvT hZ (hw _ (List.mem_of_getElem? (i := 53) rfl))) (by decide) (backOf (W := 0) (rm10 l Z A0 hw [] w_COMPACT_STRINGS c0 h0 n0 OLD c_5 c_17 f_4) hZ (hw _ (List.mem_of_getElem? (i := 53) rfl)) (hw _ (List.mem_of_getElem? (i := 2) rfl)) (by decide) (by decide)) (g := (mkF m 79 #[vI p0, vI p1, vI p2, vI p3, vI (3 : Int32), .unset, vI (1 : Int32), vI c0, vI c1, vI c2, .unset] [(.int c0)])) rfl (by rw [hml]; rfl) (argsL := [(.int c0)]) (rest := []) (lenOf pd_6 rfl) rfl (by show 2 * 0 + _ ≤ _; exact Nat.le_of_eq rfl) (hb hby at_79) (fun _ _ => ⟨rfl, e0, (by decide : 0 + 2 ≤ _), (by decide : 0 + 5 ≤ _)⟩)
  dsimp only [Pt.U, Pt.locs, Pt.cells, Pt.slots] at X25 l25 y25 z25 st25 hQ25
  subst l25 y25 z25
  obtain ⟨b6_25, rfl, N25q, K25, g25_0, g25_1⟩ := hQ25
  have N25 := Fr.app N0 N25q
  have K_26 : Keep h0 T25.heap [] := Keep.trans (Keep.refl h0 []) K25 all0
  have CH_27 := CH0.trans (CHr.keep K25 sf0 CH0.1)
  have O_28 := Old.keep OLD K25 all0
  obtain ⟨_, _, ⟨T29, L29, k29, n29⟩, -, X29, ⟨Lc29, hQ29, l29, y29, z29⟩, st29⟩ := Jvm.LawKit.callS X25 hx (y := (⟨"com/example/seshat/seshat/jpql/Database", "named", "(Ljava/lang/String;)Lcom/example/seshat/seshat/jpql/Database;"⟩ : MethodName)) hown (mvT hZ (hw _ (List.mem_of_getElem? (i := 68) rfl))) (mvT hZ (hw _ (List.mem_of_getElem? (i := 69) rfl))) (mvT hZ (hw _ (List.mem_of_getElem? (i := 70) rfl))) (mvT hZ (hw _ (List.mem_of_getElem? (i := 71) rfl))) (by decide) (backOf (W := 0) (rm15 l Z A0 hw [] w_VALUES k_VALUES w_H2 w_POSTGRESQL w_MARIADB ([c0] : List Int32) w_COMPACT_STRINGS pv_H2 pv_POSTGRESQL pv_MARIADB b6_25 T25.heap n0 O_28 f_1 f_2 f_3 g25_1 f_4 c_5 f_8 f_9 f_10 f_11 f_12 f_13) hZ (hw _ (List.mem_of_getElem? (i := 71) rfl)) (hw _ (List.mem_of_getElem? (i := 70) rfl)) (by decide) (by decide)) (g := (mkF m 227 #[vI p0, vI p1, vI p2, vI p3, vI (3 : Int32), vR b6_25, vI (1 : Int32), vI c0, vI c1, vI c2, .unset] [(.ref b6_25)])) rfl (by rw [hml]; rfl) (argsL := [(.ref b6_25)]) (rest := []) (lenOf pd_12 rfl) rfl (by show 2 * 0 + _ ≤ _; exact Nat.le_of_eq rfl) (hb hby at_227) (fun _ _ => ⟨rfl, rfl, (by decide : 2 + 1 ≤ _), (by decide : 5 + 3 ≤ _)⟩)
  dsimp only [Pt.U, Pt.locs, Pt.cells, Pt.slots] at X29 l29 y29 z29 st29 hQ29
  subst l29 y29 z29
  obtain ⟨rfl, N29q, K29⟩ := hQ29
  have N29 := Fr.app N25 N29q
  have K_30 : Keep h0 T29.heap [] := Keep.trans K_26 K29 all0
  have CH_31 := CH_27.trans (CHr.keep K29 sf0 CH_27.1)
  have f_32 := g25_1.keep0 K29
  have O_34 := Old.keep O_28 K29 all0
  obtain ⟨_, _, ⟨T33, L33, k33, n33⟩, -, X33, hS33q, hg33q, ⟨Lc33, hQ33, l33, y33, z33, C33⟩, st33⟩ := callSS X29 hx (y := (⟨"com/example/seshat/seshat/jpql/DatabaseNamedPinLaw", "expected", "(Ljava/lang/String;)Lcom/example/seshat/seshat/jpql/Database;"⟩ : MethodName)) hown (mvT hZ (hw _ (List.mem_of_getElem? (i := 100) rfl))) (mvT hZ (hw _ (List.mem_of_getElem? (i := 101) rfl))) (mvT hZ (hw _ (List.mem_of_getElem? (i := 24) rfl))) (mvT hZ (hw _ (List.mem_of_getElem? (i := 102) rfl))) (by decide) (backOfSH (W := 1) (rm19 l Z A0 hw [] ([c0] : List Int32) w_COMPACT_STRINGS w_H2 w_POSTGRESQL w_MARIADB b6_25 T29.heap n0 O_34 f_32 f_4 c_5 f_14 f_15 f_16) hZ (hw _ (List.mem_of_getElem? (i := 102) rfl)) (hw _ (List.mem_of_getElem? (i := 24) rfl)) (by decide) (by decide) (own_EW hw) CH_31.1) (g := (mkF m 232 #[vI p0, vI p1, vI p2, vI p3, vI (3 : Int32), vR b6_25, vI (1 : Int32), vI c0, vI c1, vI c2, .unset] [(.ref b6_25), (own_db ([c0] : List Int32) w_H2 w_POSTGRESQL w_MARIADB)])) rfl (by rw [hml]; rfl) (argsL := [(.ref b6_25)]) (rest := [(own_db ([c0] : List Int32) w_H2 w_POSTGRESQL w_MARIADB)]) (lenOf pd_12 rfl) rfl (by show 2 * 0 + _ ≤ _; simp [own_dbC]) (hb hby at_232) (fun _ _ => ⟨rfl, rfl, (by decide : 3 + 6 ≤ _), (by decide : 8 + 100 ≤ _)⟩)
  dsimp only [Pt.U, Pt.locs, Pt.cells, Pt.slots] at X33 l33 y33 z33 st33 hQ33
  subst l33 y33 z33
  dsimp only [Pt.U, Pt.locs, Pt.cells, Pt.slots] at hS33q hg33q
  have hS33 := foldS (T := T29) hS0 (Nat.le_trans (Nat.le_trans hk0 K25.1) K29.1) hS33q hg33q
  have hZ33 : Z.Warmed39 (s.setVm T33.vm).vm := State.Warmed39.trans (t := s.setVm _) hZ hS33q.1
  have hown33 : (s.setVm T33.vm).vm.findClass "com/example/seshat/seshat/jpql/DatabaseNamedPinLaw" = some m.cls := by rw [show (s.setVm T33.vm).vm = T33.vm from rfl, hS33q.1.alike.findClass]; exact hown
  have X33 : Stand p l e room_1 (s.setVm T33.vm) m _ below meth c T33 _ _ _ := X33
  dsimp only [Pt.U] at C33
  obtain ⟨rfl, N33q, K33⟩ := hQ33
  have N33 := Fr.app N29 N33q
  have K_35 : Keep h0 T33.heap [] := Keep.trans K_30 K33 all0
  have CH_36 := CH_31.trans C33
  obtain ⟨fs, hr, hrun, hended, hRW⟩ := X33.leaveW (s := s) hS33 (Nat.le_refl _) (v := some (.int (1 : Int32))) (fun h => by rw [Bd.returns] at h; cases h)
  refine ⟨_, _, pre0 _ ?_, hrun, hended, _, _, rfl, ?_, (by have q := CH_36.trans (CHv.at X33 hZ33 (own_EW hw) CH_36.1); rw [hh]; show CHr Z consts_1 s.vm h0 T33.vm T33.heap; exact q), hRW.1, hRW.2.1, hRW.2.2.1, hRW.2.2.2.mono (by decide) (by decide)⟩
  · show Steps p.tables e below (s₁.setTop (mkF m 0 #[vI p0, vI p1, vI p2, vI p3, .unset, .unset, .unset, .unset, .unset, .unset, .unset] [])) _
    refine XS.iloadN X0.here hx rfl (hb hby at_0) rfl ?_
    refine X0.ldcInt hx hown (mvT hZ (hw _ (List.mem_of_getElem? (i := 0) rfl))) (g := (mkF m 1 #[vI p0, vI p1, vI p2, vI p3, .unset, .unset, .unset, .unset, .unset, .unset, .unset] [(.int p0)])) rfl (hb hby at_1) _ ?_
    show Steps p.tables e below (s₁.setTop (mkF m 3 #[vI p0, vI p1, vI p2, vI p3, .unset, .unset, .unset, .unset, .unset, .unset, .unset] [(.int (2147483647 : Int32)), (.int p0)])) _
    refine XS.iand X0.here hx rfl (hb hby at_3) rfl ?_
    refine XS.iconst X0.here hx rfl (hb hby at_4) ?_
    show Steps p.tables e below (s₁.setTop (mkF m 5 #[vI p0, vI p1, vI p2, vI p3, .unset, .unset, .unset, .unset, .unset, .unset, .unset] [(.int (4 : Int32)), (.int (p0 &&& (2147483647 : Int32)))])) _
    refine iremM (g := (mkF m 5 #[vI p0, vI p1, vI p2, vI p3, .unset, .unset, .unset, .unset, .unset, .unset, .unset] [(.int (4 : Int32)), (.int (p0 &&& (2147483647 : Int32)))])) X0 hx rfl (hb hby at_5) rfl (by decide) ?_
    show Steps p.tables e below (s₁.setTop (mkF m 6 #[vI p0, vI p1, vI p2, vI p3, .unset, .unset, .unset, .unset, .unset, .unset, .unset] [(.int ((p0 &&& (2147483647 : Int32)) % (4 : Int32)))])) _
    rw [c_20]
    show Steps p.tables e below (s₁.setTop (mkF m 6 #[vI p0, vI p1, vI p2, vI p3, .unset, .unset, .unset, .unset, .unset, .unset, .unset] [(.int (3 : Int32))])) _
    refine XS.istore X0.here hx rfl (hb hby at_6) rfl (l' := #[vI p0, vI p1, vI p2, vI p3, vI (3 : Int32), .unset, .unset, .unset, .unset, .unset, .unset]) rfl ?_
    refine XS.iload X0.here hx rfl (hb hby at_8) rfl ?_
    show Steps p.tables e below (s₁.setTop (mkF m 10 #[vI p0, vI p1, vI p2, vI p3, vI (3 : Int32), .unset, .unset, .unset, .unset, .unset, .unset] [(.int (3 : Int32))])) _
    refine XS.iconst X0.here hx rfl (hb hby at_10) ?_
    refine XS.icmpNo X0.here hx rfl (hb hby at_11) rfl (teq (by decide : (3 : Int32) = (3 : Int32))).2 ?_
    show Steps p.tables e below (s₁.setTop (mkF m 14 #[vI p0, vI p1, vI p2, vI p3, vI (3 : Int32), .unset, .unset, .unset, .unset, .unset, .unset] [])) _
    refine XS.iloadN X0.here hx rfl (hb hby at_14) rfl ?_
    refine XS.iconst X0.here hx rfl (hb hby at_15) ?_
    show Steps p.tables e below (s₁.setTop (mkF m 16 #[vI p0, vI p1, vI p2, vI p3, vI (3 : Int32), .unset, .unset, .unset, .unset, .unset, .unset] [(.int (1 : Int32)), (.int p1)])) _
    refine XS.iushr X0.here hx rfl (hb hby at_16) rfl ?_
    refine XS.iconst X0.here hx rfl (hb hby at_17) ?_
    show Steps p.tables e below (s₁.setTop (mkF m 18 #[vI p0, vI p1, vI p2, vI p3, vI (3 : Int32), .unset, .unset, .unset, .unset, .unset, .unset] [(.int (3 : Int32)), (.int ((p1.toUInt32 >>> ((1 : Int32) &&& 31).toUInt32).toInt32))])) _
    refine XS.iand X0.here hx rfl (hb hby at_18) rfl ?_
    show Steps p.tables e below (s₁.setTop (mkF m 19 #[vI p0, vI p1, vI p2, vI p3, vI (3 : Int32), .unset, .unset, .unset, .unset, .unset, .unset] [(.int (((p1.toUInt32 >>> ((1 : Int32) &&& 31).toUInt32).toInt32) &&& (3 : Int32)))])) _
    rw [c_21]
    show Steps p.tables e below (s₁.setTop (mkF m 19 #[vI p0, vI p1, vI p2, vI p3, vI (3 : Int32), .unset, .unset, .unset, .unset, .unset, .unset] [(.int (1 : Int32))])) _
    refine XS.istore X0.here hx rfl (hb hby at_19) rfl (l' := #[vI p0, vI p1, vI p2, vI p3, vI (3 : Int32), .unset, vI (1 : Int32), .unset, .unset, .unset, .unset]) rfl ?_
    refine XS.iloadN X0.here hx rfl (hb hby at_21) rfl ?_
    show Steps p.tables e below (s₁.setTop (mkF m 22 #[vI p0, vI p1, vI p2, vI p3, vI (3 : Int32), .unset, vI (1 : Int32), .unset, .unset, .unset, .unset] [(.int p2)])) _
    refine XS.sipush X0.here hx rfl (hb hby at_22) ?_
    refine XS.iand X0.here hx rfl (hb hby at_25) rfl ?_
    show Steps p.tables e below (s₁.setTop (mkF m 26 #[vI p0, vI p1, vI p2, vI p3, vI (3 : Int32), .unset, vI (1 : Int32), .unset, .unset, .unset, .unset] [(.int (p2 &&& (255 : Int32)))])) _
    refine XS.i2c X0.here hx rfl (hb hby at_26) rfl ?_
    show Steps p.tables e below (s₁.setTop (mkF m 27 #[vI p0, vI p1, vI p2, vI p3, vI (3 : Int32), .unset, vI (1 : Int32), .unset, .unset, .unset, .unset] [(.int ((p2 &&& (255 : Int32)).toUInt32.toUInt16.toUInt32.toInt32))])) _
    rw [c_22]
    show Steps p.tables e below (s₁.setTop (mkF m 27 #[vI p0, vI p1, vI p2, vI p3, vI (3 : Int32), .unset, vI (1 : Int32), .unset, .unset, .unset, .unset] [(.int c0)])) _
    refine XS.istore X0.here hx rfl (hb hby at_27) rfl (l' := #[vI p0, vI p1, vI p2, vI p3, vI (3 : Int32), .unset, vI (1 : Int32), vI c0, .unset, .unset, .unset]) rfl ?_
    refine XS.iloadN X0.here hx rfl (hb hby at_29) rfl ?_
    show Steps p.tables e below (s₁.setTop (mkF m 30 #[vI p0, vI p1, vI p2, vI p3, vI (3 : Int32), .unset, vI (1 : Int32), vI c0, .unset, .unset, .unset] [(.int p2)])) _
    refine XS.bipush X0.here hx rfl (hb hby at_30) ?_
    refine XS.iushr X0.here hx rfl (hb hby at_32) rfl ?_
    show Steps p.tables e below (s₁.setTop (mkF m 33 #[vI p0, vI p1, vI p2, vI p3, vI (3 : Int32), .unset, vI (1 : Int32), vI c0, .unset, .unset, .unset] [(.int ((p2.toUInt32 >>> ((8 : Int32) &&& 31).toUInt32).toInt32))])) _
    refine XS.sipush X0.here hx rfl (hb hby at_33) ?_
    refine XS.iand X0.here hx rfl (hb hby at_36) rfl ?_
    show Steps p.tables e below (s₁.setTop (mkF m 37 #[vI p0, vI p1, vI p2, vI p3, vI (3 : Int32), .unset, vI (1 : Int32), vI c0, .unset, .unset, .unset] [(.int (((p2.toUInt32 >>> ((8 : Int32) &&& 31).toUInt32).toInt32) &&& (255 : Int32)))])) _
    refine XS.i2c X0.here hx rfl (hb hby at_37) rfl ?_
    show Steps p.tables e below (s₁.setTop (mkF m 38 #[vI p0, vI p1, vI p2, vI p3, vI (3 : Int32), .unset, vI (1 : Int32), vI c0, .unset, .unset, .unset] [(.int ((((p2.toUInt32 >>> ((8 : Int32) &&& 31).toUInt32).toInt32) &&& (255 : Int32)).toUInt32.toUInt16.toUInt32.toInt32))])) _
    rw [c_23]
    show Steps p.tables e below (s₁.setTop (mkF m 38 #[vI p0, vI p1, vI p2, vI p3, vI (3 : Int32), .unset, vI (1 : Int32), vI c0, .unset, .unset, .unset] [(.int c1)])) _
    refine XS.istore X0.here hx rfl (hb hby at_38) rfl (l' := #[vI p0, vI p1, vI p2, vI p3, vI (3 : Int32), .unset, vI (1 : Int32), vI c0, vI c1, .unset, .unset]) rfl ?_
    refine XS.iloadN X0.here hx rfl (hb hby at_40) rfl ?_
    show Steps p.tables e below (s₁.setTop (mkF m 41 #[vI p0, vI p1, vI p2, vI p3, vI (3 : Int32), .unset, vI (1 : Int32), vI c0, vI c1, .unset, .unset] [(.int p2)])) _
    refine XS.bipush X0.here hx rfl (hb hby at_41) ?_
    refine XS.iushr X0.here hx rfl (hb hby at_43) rfl ?_
    show Steps p.tables e below (s₁.setTop (mkF m 44 #[vI p0, vI p1, vI p2, vI p3, vI (3 : Int32), .unset, vI (1 : Int32), vI c0, vI c1, .unset, .unset] [(.int ((p2.toUInt32 >>> ((16 : Int32) &&& 31).toUInt32).toInt32))])) _
    refine XS.sipush X0.here hx rfl (hb hby at_44) ?_
    refine XS.iand X0.here hx rfl (hb hby at_47) rfl ?_
    show Steps p.tables e below (s₁.setTop (mkF m 48 #[vI p0, vI p1, vI p2, vI p3, vI (3 : Int32), .unset, vI (1 : Int32), vI c0, vI c1, .unset, .unset] [(.int (((p2.toUInt32 >>> ((16 : Int32) &&& 31).toUInt32).toInt32) &&& (255 : Int32)))])) _
    refine XS.i2c X0.here hx rfl (hb hby at_48) rfl ?_
    show Steps p.tables e below (s₁.setTop (mkF m 49 #[vI p0, vI p1, vI p2, vI p3, vI (3 : Int32), .unset, vI (1 : Int32), vI c0, vI c1, .unset, .unset] [(.int ((((p2.toUInt32 >>> ((16 : Int32) &&& 31).toUInt32).toInt32) &&& (255 : Int32)).toUInt32.toUInt16.toUInt32.toInt32))])) _
    rw [c_24]
    show Steps p.tables e below (s₁.setTop (mkF m 49 #[vI p0, vI p1, vI p2, vI p3, vI (3 : Int32), .unset, vI (1 : Int32), vI c0, vI c1, .unset, .unset] [(.int c2)])) _
    refine XS.istore X0.here hx rfl (hb hby at_49) rfl (l' := #[vI p0, vI p1, vI p2, vI p3, vI (3 : Int32), .unset, vI (1 : Int32), vI c0, vI c1, vI c2, .unset]) rfl ?_
    refine XS.iload X0.here hx rfl (hb hby at_51) rfl ?_
    show Steps p.tables e below (s₁.setTop (mkF m 53 #[vI p0, vI p1, vI p2, vI p3, vI (3 : Int32), .unset, vI (1 : Int32), vI c0, vI c1, vI c2, .unset] [(.int (1 : Int32))])) _
    refine XS.ifYes X0.here hx rfl (pc0 := 53) (pc' := 71) rfl (hb hby at_53) rfl ((if0 _ _).trans (feq (by decide : ¬ ((1 : Int32) = (0 : Int32)))).2) (by decide) (by decide) ?_
    refine XS.iload X0.here hx rfl (hb hby at_71) rfl ?_
    show Steps p.tables e below (s₁.setTop (mkF m 73 #[vI p0, vI p1, vI p2, vI p3, vI (3 : Int32), .unset, vI (1 : Int32), vI c0, vI c1, vI c2, .unset] [(.int (1 : Int32))])) _
    refine XS.iconst X0.here hx rfl (hb hby at_73) ?_
    refine XS.icmpNo X0.here hx rfl (hb hby at_74) rfl (teq (by decide : (1 : Int32) = (1 : Int32))).2 ?_
    show Steps p.tables e below (s₁.setTop (mkF m 77 #[vI p0, vI p1, vI p2, vI p3, vI (3 : Int32), .unset, vI (1 : Int32), vI c0, vI c1, vI c2, .unset] [])) _
    refine XS.iload X0.here hx rfl (hb hby at_77) rfl ?_
    refine st25 _ ?_
    show Steps p.tables e below (T25.setTop (mkF m 82 #[vI p0, vI p1, vI p2, vI p3, vI (3 : Int32), .unset, vI (1 : Int32), vI c0, vI c1, vI c2, .unset] [(.ref b6_25)])) _
    refine XS.astore X25.here hx rfl (hb hby at_82) rfl rfl (l' := #[vI p0, vI p1, vI p2, vI p3, vI (3 : Int32), vR b6_25, vI (1 : Int32), vI c0, vI c1, vI c2, .unset]) rfl ?_
    refine XS.goto X25.here hx rfl (pc0 := 84) (pc' := 145) rfl (hb hby at_84) (by decide) (by decide) ?_
    show Steps p.tables e below (T25.setTop (mkF m 145 #[vI p0, vI p1, vI p2, vI p3, vI (3 : Int32), vR b6_25, vI (1 : Int32), vI c0, vI c1, vI c2, .unset] [])) _
    refine XS.goto X25.here hx rfl (pc0 := 145) (pc' := 225) rfl (hb hby at_145) (by decide) (by decide) ?_
    refine XS.aload X25.here hx rfl (hb hby at_225) rfl rfl ?_
    show Steps p.tables e below (T25.setTop (mkF m 227 #[vI p0, vI p1, vI p2, vI p3, vI (3 : Int32), vR b6_25, vI (1 : Int32), vI c0, vI c1, vI c2, .unset] [(.ref b6_25)])) _
    refine st29 _ ?_
    refine XS.aload X29.here hx rfl (hb hby at_230) rfl rfl ?_
    show Steps p.tables e below (T29.setTop (mkF m 232 #[vI p0, vI p1, vI p2, vI p3, vI (3 : Int32), vR b6_25, vI (1 : Int32), vI c0, vI c1, vI c2, .unset] [(.ref b6_25), (own_db ([c0] : List Int32) w_H2 w_POSTGRESQL w_MARIADB)])) _
    refine st33.trans ?_
    refine Jvm.RoadKit.acmp (g := (mkF m 235 #[vI p0, vI p1, vI p2, vI p3, vI (3 : Int32), vR b6_25, vI (1 : Int32), vI c0, vI c1, vI c2, .unset] [(own_db ([c0] : List Int32) w_H2 w_POSTGRESQL w_MARIADB), (own_db ([c0] : List Int32) w_H2 w_POSTGRESQL w_MARIADB)])) X33 hx rfl (own_dbR _ _ _ _) (own_dbR _ _ _ _) (pc0 := 235) (pc' := 238) (same := true) rfl (hb hby at_235) rfl (decide_eq_true rfl) (by decide) (by decide) ?_
    show Steps p.tables e below (T33.setTop (mkF m 238 #[vI p0, vI p1, vI p2, vI p3, vI (3 : Int32), vR b6_25, vI (1 : Int32), vI c0, vI c1, vI c2, .unset] [])) _
    refine XS.iconst X33.here hx rfl (hb hby at_238) ?_
    refine XS.goto X33.here hx rfl (pc0 := 239) (pc' := 243) rfl (hb hby at_239) (by decide) (by decide) ?_
    show Steps p.tables e below (T33.setTop (mkF m 243 #[vI p0, vI p1, vI p2, vI p3, vI (3 : Int32), vR b6_25, vI (1 : Int32), vI c0, vI c1, vI c2, .unset] [(.int (1 : Int32))])) _
    exact retN X33 hx (t := .boolean) Bd.returns (by simp) (hb hby at_243) hr
  · show Q0k3r1 Z w_VALUES k_VALUES w_H2 w_POSTGRESQL w_MARIADB w_COMPACT_STRINGS w_SIOOBE_FORMATTER pv_H2 pv_POSTGRESQL pv_MARIADB c0 c1 c2 p0 p1 p2 p3 h0 n0 _ T33.heap _
    exact ⟨rfl, N33⟩
def Q0k3r2 (Z : State) (w_VALUES : Addr) (k_VALUES : ClassId) (w_H2 : Addr) (w_POSTGRESQL : Addr) (w_MARIADB : Addr) (w_COMPACT_STRINGS : Int32) (w_SIOOBE_FORMATTER : Value) (pv_H2 : Addr) (pv_POSTGRESQL : Addr) (pv_MARIADB : Addr) (c0 : Int32) (c1 : Int32) (c2 : Int32) (p0 : Int32) (p1 : Int32) (p2 : Int32) (p3 : Int32) (h0 : Heap) (n0 : Nat) (v : Option Value) (h : Heap) (L : List Loc) : Prop := v = some (.int (1 : Int32)) ∧ Fr n0 L
set_option maxRecDepth 65536 in
set_option maxHeartbeats 40000000 in
theorem rm0k3r2 (l : Launch) (Z : State) (A0 : Array Value) (hw : ∀ d ∈ tables_1, d.before A0 Z = true) (ws : List Jvm.Cond) (w_VALUES : Addr) (k_VALUES : ClassId) (w_H2 : Addr) (w_POSTGRESQL : Addr) (w_MARIADB : Addr) (w_COMPACT_STRINGS : Int32) (w_SIOOBE_FORMATTER : Value) (pv_H2 : Addr) (pv_POSTGRESQL : Addr) (pv_MARIADB : Addr) (c0 : Int32) (c1 : Int32) (c2 : Int32) (p0 : Int32) (p1 : Int32) (p2 : Int32) (p3 : Int32) (h0 : Heap) (n0 : Nat) (OLD : Old Z n0 h0) (f_1 : Sta Z Z.heap "com/example/seshat/seshat/jpql/Database" "$VALUES" "[Lcom/example/seshat/seshat/jpql/Database;" (.ref w_VALUES)) (f_2 : Exa Z Z.heap w_VALUES "[Lcom/example/seshat/seshat/jpql/Database;") (f_3 : Arv Z Z.heap w_VALUES k_VALUES (.object "com/example/seshat/seshat/jpql/Database") (3 : Int32) [(.ref w_H2), (.ref w_POSTGRESQL), (.ref w_MARIADB)] .null) (f_4 : Sta Z Z.heap "java/lang/String" "COMPACT_STRINGS" "Z" (.int w_COMPACT_STRINGS)) (c_5 : ¬ (w_COMPACT_STRINGS = (0 : Int32))) (f_6 : Sta Z Z.heap "jdk/internal/util/Preconditions" "SIOOBE_FORMATTER" "Ljava/util/function/BiFunction;" w_SIOOBE_FORMATTER) (c_7 : w_SIOOBE_FORMATTER.isRef = true) (f_8 : Fld Z Z.heap w_H2 "com/example/seshat/seshat/jpql/Database" "propertyValue" "Ljava/lang/String;" (.ref pv_H2)) (f_9 : Fld Z Z.heap w_POSTGRESQL "com/example/seshat/seshat/jpql/Database" "propertyValue" "Ljava/lang/String;" (.ref pv_POSTGRESQL)) (f_10 : Fld Z Z.heap w_MARIADB "com/example/seshat/seshat/jpql/Database" "propertyValue" "Ljava/lang/String;" (.ref pv_MARIADB)) (f_11 : own_Txt Z Z.heap pv_H2 ([104, 50] : List Int32)) (f_12 : own_Txt Z Z.heap pv_POSTGRESQL ([112, 111, 115, 116, 103, 114, 101, 115, 113, 108] : List Int32)) (f_13 : own_Txt Z Z.heap pv_MARIADB ([109, 97, 114, 105, 97, 100, 98] : List Int32)) (f_14 : Sta Z Z.heap "com/example/seshat/seshat/jpql/Database" "H2" "Lcom/example/seshat/seshat/jpql/Database;" (.ref w_H2)) (f_15 : Sta Z Z.heap "com/example/seshat/seshat/jpql/Database" "POSTGRESQL" "Lcom/example/seshat/seshat/jpql/Database;" (.ref w_POSTGRESQL)) (f_16 : Sta Z Z.heap "com/example/seshat/seshat/jpql/Database" "MARIADB" "Lcom/example/seshat/seshat/jpql/Database;" (.ref w_MARIADB)) (c_17 : own_B c0) (c_18 : own_B c1) (c_19 : own_B c2) (c_20 : ((p0 &&& (2147483647 : Int32)) % (4 : Int32)) = (3 : Int32)) (c_21 : (((p1.toUInt32 >>> ((1 : Int32) &&& 31).toUInt32).toInt32) &&& (3 : Int32)) = (2 : Int32)) (c_22 : ((p2 &&& (255 : Int32)).toUInt32.toUInt16.toUInt32.toInt32) = c0) (c_23 : ((((p2.toUInt32 >>> ((8 : Int32) &&& 31).toUInt32).toInt32) &&& (255 : Int32)).toUInt32.toUInt16.toUInt32.toInt32) = c1) (c_24 : ((((p2.toUInt32 >>> ((16 : Int32) &&& 31).toUInt32).toInt32) &&& (255 : Int32)).toUInt32.toUInt16.toUInt32.toInt32) = c2) :
    MetFree l x (head1 (Jvm.Cond.code x code maxLocals ret :: ws) room_1) (fun a U => a = #[(.int p0), (.int p1), (.int p2), (.int p3)] ∧ Z.Warmed39 U.vm ∧ U.heap = h0 ∧ CHv Z consts_1 U.vm h0) (fun _ _ _ _ _ => True) (fun _ U o U' => ∃ v L, o = .returned v ∧ Q0k3r2 Z w_VALUES k_VALUES w_H2 w_POSTGRESQL w_MARIADB w_COMPACT_STRINGS w_SIOOBE_FORMATTER pv_H2 pv_POSTGRESQL pv_MARIADB c0 c1 c2 p0 p1 p2 p3 h0 n0 v U'.heap L ∧ CHr Z consts_1 U.vm U.heap U'.vm U'.heap ∧ ReturnedEndW U o U' L room_1.cells room_1.slots) := by
  refine MetFree.of_bodySF (plainFor_of_name pn_com_example_seshat_seshat_jpql_DatabaseNamedPinLaw) hisR ?_
  intro p e s m args below meth c s₁ Bd hml0 hP hK
  obtain ⟨rfl, hZ, hh, hCH⟩ := hP
  have hx := Bd.exec
  have hby := Bd.bytes
  have hml : c.maxLocals = 11 := hml0
  have hown : s.vm.findClass "com/example/seshat/seshat/jpql/DatabaseNamedPinLaw" = some m.cls := findClass_of_methodNamed Bd.named
  have hnm := (name_of_methodNamed Bd.named Bd.method).1
  have X0 : Stand p l e room_1 (s.setVm s.vm) m #[(.int p0), (.int p1), (.int p2), (.int p3)] below meth c s₁ [] 0 0 := Stand.of_body Bd
  have e0 : s₁.heap = h0 := by rw [← hh, Bd.state]; rfl
  have hS0 : s.Since s.vm h0.size := (State.WarmedH.refl s).since _
  have hk0 : h0.size ≤ h0.size := Nat.le_refl _
  have hZ : Z.Warmed39 (s.setVm s.vm).vm := hZ
  have hown : (s.setVm s.vm).vm.findClass "com/example/seshat/seshat/jpql/DatabaseNamedPinLaw" = some m.cls := hown
  have CH0 : CHr Z consts_1 (s.setVm s.vm).vm h0 (s.setVm s.vm).vm h0 := CHr.refl hCH
  have N0 := Fr.nil n0
  have pre0 : ∀ t, Steps p.tables e below (s₁.setTop (mkF m 0 #[vI p0, vI p1, vI p2, vI p3, .unset, .unset, .unset, .unset, .unset, .unset, .unset] [])) t → Steps p.tables e below (s₁.setTop (entryFrame m #[(.int p0), (.int p1), (.int p2), (.int p3)] maxLocals)) t := fun t k => castTop (ef_0 m p0 p1 p2 p3) k
  obtain ⟨T25, h25, X25, e25, E25, A25, D25, M25, st25⟩ := newO X0 hx hZ hown (hw _ (List.mem_of_getElem? (i := 106) rfl)) (hw _ (List.mem_of_getElem? (i := 3) rfl)) (hw _ (List.mem_of_getElem? (i := 2) rfl)) e0 (g := (mkF m 93 #[vI p0, vI p1, vI p2, vI p3, vI (3 : Int32), .unset, vI (2 : Int32), vI c0, vI c1, vI c2, .unset] [])) rfl (hb hby at_93) (by decide) (by decide)
  obtain ⟨b25, g25⟩ : ∃ z, z = h0.size := ⟨_, rfl⟩
  rw [← g25] at A25 D25 M25 st25
  have K_26 : Keep h0 h25 [] := (Keep.refl h0 []).ext E25
  have CH_27 := CH0.trans (CHr.ext E25 CH0.1)
  have f_28 : Fld Z h25 b25 "java/lang/String" "value" "[B" .null := (D25 (Or.inr (hw _ (List.mem_of_getElem? (i := 5) rfl))) (ty := (.array .byte)) (by decide))
  have f_29 : Fld Z h25 b25 "java/lang/String" "coder" "B" (.int (0 : Int32)) := (D25 (Or.inr (hw _ (List.mem_of_getElem? (i := 6) rfl))) (ty := .byte) (by decide))
  obtain ⟨T30, h30, k30, X30, e30, E30, A30, st30⟩ := newP X25 hx hZ (hw _ (List.mem_of_getElem? (i := 107) rfl)) e25 (g := (mkF m 98 #[vI p0, vI p1, vI p2, vI p3, vI (3 : Int32), .unset, vI (2 : Int32), vI c0, vI c1, vI c2, .unset] [(.int (2 : Int32)), (.ref b25), (.ref b25)])) rfl (hb hby at_98) rfl (by decide) (cap := 2) (by decide) (by decide) (by decide) (by decide)
  obtain ⟨b30, g30⟩ : ∃ z, z = h25.size := ⟨_, rfl⟩
  rw [← g30] at A30 st30
  have K_31 : Keep h0 h30 [] := K_26.ext E30
  have CH_32 := CH_27.trans (CHr.ext E30 CH_27.1)
  have f_33 : Arv Z h30 b30 k30 .char (2 : Int32) [(.int (0 : Int32)), (.int (0 : Int32))] (.int (0 : Int32)) := (Arv.new A30 (by decide)).pad (pad_rep [] (.int (0 : Int32)) 2)
  obtain ⟨cl34, Ar34, q34, s34, n34, hh34, gg34⟩ := id (f_33)
  have hin34 : ¬ ((0 : Int32) < 0 ∨ cl34.slots.size ≤ ((0 : Int32)).toNatClampNeg) := inb_of s34 ⟨by decide, by decide⟩
  obtain ⟨T35, h35, X35, e35, W35, st35⟩ := stC X30 hx hZ e30 Ar34 (j := (0 : Int32)) hin34 (g := (mkF m 104 #[vI p0, vI p1, vI p2, vI p3, vI (3 : Int32), .unset, vI (2 : Int32), vI c0, vI c1, vI c2, .unset] [(.int c0), (.int (0 : Int32)), (.ref b30), (.ref b30), (.ref b25), (.ref b25)])) rfl rfl (hb hby at_104)
  have O_36 := Old.ext OLD E25
  have ge_37 : n0 ≤ b30 := own_ge O_36 (Nat.le_of_eq g30.symm)
  have N35 := Fr.snoc X35 N0 ge_37
  have f_38 : Arv Z h35 b30 k30 .char (2 : Int32) [(.int (nar .char c0)), (.int (0 : Int32))] (.int (0 : Int32)) := Arv.set Ar34 q34 s34 n34 hh34 gg34 (fits_nar_char _) W35 0 rfl (Nat.le_of_ble_eq_true rfl)
  have K_39 : Keep h0 h35 [] := K_31.wr W35 (Or.inr (Nat.le_trans K_26.1 (Nat.le_of_eq g30.symm)))
  have sf_40 : Safe Z consts_1 _ h30 b30 := Safe.arv (EL := consts_1) hZ.alike f_33 (by decide)
  have CH_41 := CH_32.trans (CHr.wr W35 sf_40 CH_32.1)
  obtain ⟨cl42, Ar42, q42, s42, n42, hh42, gg42⟩ := id (f_38)
  have hin42 : ¬ ((1 : Int32) < 0 ∨ cl42.slots.size ≤ ((1 : Int32)).toNatClampNeg) := inb_of s42 ⟨by decide, by decide⟩
  obtain ⟨T43, h43, X43, e43, W43, st43⟩ := stC X35 hx hZ e35 Ar42 (j := (1 : Int32)) hin42 (g := (mkF m 109 #[vI p0, vI p1, vI p2, vI p3, vI (3 : Int32), .unset, vI (2 : Int32), vI c0, vI c1, vI c2, .unset] [(.int c1), (.int (1 : Int32)), (.ref b30), (.ref b30), (.ref b25), (.ref b25)])) rfl rfl (hb hby at_109)
  have N43 := Fr.snoc X43 N35 ge_37
  have f_44 : Arv Z h43 b30 k30 .char (2 : Int32) [(.int (nar .char c0)), (.int (nar .char c1))] (.int (0 : Int32)) := Arv.set Ar42 q42 s42 n42 hh42 gg42 (fits_nar_char _) W43 1 rfl (Nat.le_of_ble_eq_true rfl)
  have K_45 : Keep h0 h43 [] := K_39.wr W43 (Or.inr (Nat.le_trans K_26.1 (Nat.le_of_eq g30.symm)))
  have sf_46 : Safe Z consts_1 _ h35 b30 := Safe.arv (EL := consts_1) hZ.alike f_38 (by decide)
  have CH_47 := CH_41.trans (CHr.wr W43 sf_46 CH_41.1)
  have O_48 := Old.ext O_36 E30
  have O_49 := Old.wr O_48 W35 ge_37
  have O_50 := Old.wr O_49 W43 ge_37
  have ge_51 : n0 ≤ b25 := own_ge OLD (Nat.le_of_eq g25.symm)
  have f_52 := A25.ext E30
  have f_53 := f_52.wr W35
  have f_54 := f_53.wr W43
  have f_55 := f_28.ext E30
  have ne_56 : b25 ≠ b30 := Nat.ne_of_lt (Nat.lt_of_lt_of_le A25.lt (Nat.le_of_eq g30.symm))
  have f_57 := f_55.other W35 (Or.inl ne_56)
  have f_58 := f_57.other W43 (Or.inl ne_56)
  have f_59 := f_29.ext E30
  have f_60 := f_59.other W35 (Or.inl ne_56)
  have f_61 := f_60.other W43 (Or.inl ne_56)
  obtain ⟨_, _, ⟨T62, L62, k62, n62⟩, -, X62, ⟨Lc62, hQ62, l62, y62, z62⟩, st62⟩ := X43.specialBack hx (y := (⟨"java/lang/String", "<init>", "([C)V"⟩ : MethodName)) rfl hown (mvT hZ (hw _ (List.mem_of_getElem? (i := 108) rfl))) (mvT hZ (hw _ (List.mem_of_getElem? (i := 109) rfl))) (mvT hZ (hw _ (List.mem_of_getElem? (i := 110) rfl))) (by decide) (own_newB (W := 1) (n := 2) (cs := ([(nar .char c0), (nar .char c1)] : List Int32)) hZ hw O_50 f_4 c_5 ge_51 f_54 f_58 f_61 f_44 rfl (by decide) (by decide) (own_cS (own_bn c_17) (own_cS (own_bn c_18) own_c0)) (by decide) (by decide)) (g := (mkF m 110 #[vI p0, vI p1, vI p2, vI p3, vI (3 : Int32), .unset, vI (2 : Int32), vI c0, vI c1, vI c2, .unset] [(.ref b30), (.ref b25), (.ref b25)])) rfl (by rw [hml]; rfl) (Steps.refl _) (a := b25) (argsL := [(.ref b30)]) (rest := [(.ref b25)]) (lenOf pd_7 rfl) rfl (by show 2 * 0 + _ ≤ _; exact Nat.le_of_eq rfl) (hb hby at_110) (fun _ _ => ⟨rfl, e43, (by decide : 2 + 1 ≤ _), (by decide : 6 + 2 ≤ _)⟩)
  dsimp only [Pt.U, Pt.locs, Pt.cells, Pt.slots] at X62 l62 y62 z62 st62 hQ62
  subst l62 y62 z62
  obtain ⟨rfl, N62q, K62, g62_0⟩ := hQ62
  have N62 := Fr.app N43 N62q
  have K_63 : Keep h0 T62.heap [] := Keep.trans K_45 K62 (allS (Or.inr (Nat.le_trans (Keep.refl h0 []).1 (Nat.le_of_eq g25.symm))) all0)
  have sf_64 : Safe Z consts_1 _ h43 b25 := own_safeNull (EL := consts_1) hZ.alike f_54 f_58
  have CH_65 := CH_47.trans (CHr.keep K62 (sfS sf_64 sf0) CH_47.1)
  have O_66 := Old.keep O_50 K62 (allS ge_51 all0)
  obtain ⟨_, _, ⟨T67, L67, k67, n67⟩, -, X67, ⟨Lc67, hQ67, l67, y67, z67⟩, st67⟩ := Jvm.LawKit.callS X62 hx (y := (⟨"com/example/seshat/seshat/jpql/Database", "named", "(Ljava/lang/String;)Lcom/example/seshat/seshat/jpql/Database;"⟩ : MethodName)) hown (mvT hZ (hw _ (List.mem_of_getElem? (i := 68) rfl))) (mvT hZ (hw _ (List.mem_of_getElem? (i := 69) rfl))) (mvT hZ (hw _ (List.mem_of_getElem? (i := 70) rfl))) (mvT hZ (hw _ (List.mem_of_getElem? (i := 71) rfl))) (by decide) (backOf (W := 0) (rm15 l Z A0 hw [] w_VALUES k_VALUES w_H2 w_POSTGRESQL w_MARIADB ([(nar .char c0), (nar .char c1)] : List Int32) w_COMPACT_STRINGS pv_H2 pv_POSTGRESQL pv_MARIADB b25 T62.heap n0 O_66 f_1 f_2 f_3 g62_0 f_4 c_5 f_8 f_9 f_10 f_11 f_12 f_13) hZ (hw _ (List.mem_of_getElem? (i := 71) rfl)) (hw _ (List.mem_of_getElem? (i := 70) rfl)) (by decide) (by decide)) (g := (mkF m 227 #[vI p0, vI p1, vI p2, vI p3, vI (3 : Int32), vR b25, vI (2 : Int32), vI c0, vI c1, vI c2, .unset] [(.ref b25)])) rfl (by rw [hml]; rfl) (argsL := [(.ref b25)]) (rest := []) (lenOf pd_12 rfl) rfl (by show 2 * 0 + _ ≤ _; exact Nat.le_of_eq rfl) (hb hby at_227) (fun _ _ => ⟨rfl, rfl, (by decide : 3 + 1 ≤ _), (by decide : 8 + 3 ≤ _)⟩)
  dsimp only [Pt.U, Pt.locs, Pt.cells, Pt.slots] at X67 l67 y67 z67 st67 hQ67
  subst l67 y67 z67
  obtain ⟨rfl, N67q, K67⟩ := hQ67
  have N67 := Fr.app N62 N67q
  have K_68 : Keep h0 T67.heap [] := Keep.trans K_63 K67 all0
  have CH_69 := CH_65.trans (CHr.keep K67 sf0 CH_65.1)
  have f_70 := g62_0.keep0 K67
  have O_72 := Old.keep O_66 K67 all0
  obtain ⟨_, _, ⟨T71, L71, k71, n71⟩, -, X71, hS71q, hg71q, ⟨Lc71, hQ71, l71, y71, z71, C71⟩, st71⟩ := callSS X67 hx (y := (⟨"com/example/seshat/seshat/jpql/DatabaseNamedPinLaw", "expected", "(Ljava/lang/String;)Lcom/example/seshat/seshat/jpql/Database;"⟩ : MethodName)) hown (mvT hZ (hw _ (List.mem_of_getElem? (i := 100) rfl))) (mvT hZ (hw _ (List.mem_of_getElem? (i := 101) rfl))) (mvT hZ (hw _ (List.mem_of_getElem? (i := 24) rfl))) (mvT hZ (hw _ (List.mem_of_getElem? (i := 102) rfl))) (by decide) (backOfSH (W := 1) (rm19 l Z A0 hw [] ([(nar .char c0), (nar .char c1)] : List Int32) w_COMPACT_STRINGS w_H2 w_POSTGRESQL w_MARIADB b25 T67.heap n0 O_72 f_70 f_4 c_5 f_14 f_15 f_16) hZ (hw _ (List.mem_of_getElem? (i := 102) rfl)) (hw _ (List.mem_of_getElem? (i := 24) rfl)) (by decide) (by decide) (own_EW hw) CH_69.1) (g := (mkF m 232 #[vI p0, vI p1, vI p2, vI p3, vI (3 : Int32), vR b25, vI (2 : Int32), vI c0, vI c1, vI c2, .unset] [(.ref b25), (own_db ([(nar .char c0), (nar .char c1)] : List Int32) w_H2 w_POSTGRESQL w_MARIADB)])) rfl (by rw [hml]; rfl) (argsL := [(.ref b25)]) (rest := [(own_db ([(nar .char c0), (nar .char c1)] : List Int32) w_H2 w_POSTGRESQL w_MARIADB)]) (lenOf pd_12 rfl) rfl (by show 2 * 0 + _ ≤ _; simp [own_dbC]) (hb hby at_232) (fun _ _ => ⟨rfl, rfl, (by decide : 4 + 6 ≤ _), (by decide : 11 + 100 ≤ _)⟩)
  dsimp only [Pt.U, Pt.locs, Pt.cells, Pt.slots] at X71 l71 y71 z71 st71 hQ71
  subst l71 y71 z71
  dsimp only [Pt.U, Pt.locs, Pt.cells, Pt.slots] at hS71q hg71q
  have hS71 := foldS (T := T67) hS0 (Nat.le_trans (Nat.le_trans (Nat.le_trans (Nat.le_trans (Nat.le_trans (Nat.le_trans hk0 E25.1) E30.1) (Keep.of_wr W35).1) (Keep.of_wr W43).1) K62.1) K67.1) hS71q hg71q
  have hZ71 : Z.Warmed39 (s.setVm T71.vm).vm := State.Warmed39.trans (t := s.setVm _) hZ hS71q.1
  have hown71 : (s.setVm T71.vm).vm.findClass "com/example/seshat/seshat/jpql/DatabaseNamedPinLaw" = some m.cls := by rw [show (s.setVm T71.vm).vm = T71.vm from rfl, hS71q.1.alike.findClass]; exact hown
  have X71 : Stand p l e room_1 (s.setVm T71.vm) m _ below meth c T71 _ _ _ := X71
  dsimp only [Pt.U] at C71
  obtain ⟨rfl, N71q, K71⟩ := hQ71
  have N71 := Fr.app N67 N71q
  have K_73 : Keep h0 T71.heap [] := Keep.trans K_68 K71 all0
  have CH_74 := CH_69.trans C71
  obtain ⟨fs, hr, hrun, hended, hRW⟩ := X71.leaveW (s := s) hS71 (Nat.le_refl _) (v := some (.int (1 : Int32))) (fun h => by rw [Bd.returns] at h; cases h)
  refine ⟨_, _, pre0 _ ?_, hrun, hended, _, _, rfl, ?_, (by have q := CH_74.trans (CHv.at X71 hZ71 (own_EW hw) CH_74.1); rw [hh]; show CHr Z consts_1 s.vm h0 T71.vm T71.heap; exact q), hRW.1, hRW.2.1, hRW.2.2.1, hRW.2.2.2.mono (by decide) (by decide)⟩
  · show Steps p.tables e below (s₁.setTop (mkF m 0 #[vI p0, vI p1, vI p2, vI p3, .unset, .unset, .unset, .unset, .unset, .unset, .unset] [])) _
    refine XS.iloadN X0.here hx rfl (hb hby at_0) rfl ?_
    refine X0.ldcInt hx hown (mvT hZ (hw _ (List.mem_of_getElem? (i := 0) rfl))) (g := (mkF m 1 #[vI p0, vI p1, vI p2, vI p3, .unset, .unset, .unset, .unset, .unset, .unset, .unset] [(.int p0)])) rfl (hb hby at_1) _ ?_
    show Steps p.tables e below (s₁.setTop (mkF m 3 #[vI p0, vI p1, vI p2, vI p3, .unset, .unset, .unset, .unset, .unset, .unset, .unset] [(.int (2147483647 : Int32)), (.int p0)])) _
    refine XS.iand X0.here hx rfl (hb hby at_3) rfl ?_
    refine XS.iconst X0.here hx rfl (hb hby at_4) ?_
    show Steps p.tables e below (s₁.setTop (mkF m 5 #[vI p0, vI p1, vI p2, vI p3, .unset, .unset, .unset, .unset, .unset, .unset, .unset] [(.int (4 : Int32)), (.int (p0 &&& (2147483647 : Int32)))])) _
    refine iremM (g := (mkF m 5 #[vI p0, vI p1, vI p2, vI p3, .unset, .unset, .unset, .unset, .unset, .unset, .unset] [(.int (4 : Int32)), (.int (p0 &&& (2147483647 : Int32)))])) X0 hx rfl (hb hby at_5) rfl (by decide) ?_
    show Steps p.tables e below (s₁.setTop (mkF m 6 #[vI p0, vI p1, vI p2, vI p3, .unset, .unset, .unset, .unset, .unset, .unset, .unset] [(.int ((p0 &&& (2147483647 : Int32)) % (4 : Int32)))])) _
    rw [c_20]
    show Steps p.tables e below (s₁.setTop (mkF m 6 #[vI p0, vI p1, vI p2, vI p3, .unset, .unset, .unset, .unset, .unset, .unset, .unset] [(.int (3 : Int32))])) _
    refine XS.istore X0.here hx rfl (hb hby at_6) rfl (l' := #[vI p0, vI p1, vI p2, vI p3, vI (3 : Int32), .unset, .unset, .unset, .unset, .unset, .unset]) rfl ?_
    refine XS.iload X0.here hx rfl (hb hby at_8) rfl ?_
    show Steps p.tables e below (s₁.setTop (mkF m 10 #[vI p0, vI p1, vI p2, vI p3, vI (3 : Int32), .unset, .unset, .unset, .unset, .unset, .unset] [(.int (3 : Int32))])) _
    refine XS.iconst X0.here hx rfl (hb hby at_10) ?_
    refine XS.icmpNo X0.here hx rfl (hb hby at_11) rfl (teq (by decide : (3 : Int32) = (3 : Int32))).2 ?_
    show Steps p.tables e below (s₁.setTop (mkF m 14 #[vI p0, vI p1, vI p2, vI p3, vI (3 : Int32), .unset, .unset, .unset, .unset, .unset, .unset] [])) _
    refine XS.iloadN X0.here hx rfl (hb hby at_14) rfl ?_
    refine XS.iconst X0.here hx rfl (hb hby at_15) ?_
    show Steps p.tables e below (s₁.setTop (mkF m 16 #[vI p0, vI p1, vI p2, vI p3, vI (3 : Int32), .unset, .unset, .unset, .unset, .unset, .unset] [(.int (1 : Int32)), (.int p1)])) _
    refine XS.iushr X0.here hx rfl (hb hby at_16) rfl ?_
    refine XS.iconst X0.here hx rfl (hb hby at_17) ?_
    show Steps p.tables e below (s₁.setTop (mkF m 18 #[vI p0, vI p1, vI p2, vI p3, vI (3 : Int32), .unset, .unset, .unset, .unset, .unset, .unset] [(.int (3 : Int32)), (.int ((p1.toUInt32 >>> ((1 : Int32) &&& 31).toUInt32).toInt32))])) _
    refine XS.iand X0.here hx rfl (hb hby at_18) rfl ?_
    show Steps p.tables e below (s₁.setTop (mkF m 19 #[vI p0, vI p1, vI p2, vI p3, vI (3 : Int32), .unset, .unset, .unset, .unset, .unset, .unset] [(.int (((p1.toUInt32 >>> ((1 : Int32) &&& 31).toUInt32).toInt32) &&& (3 : Int32)))])) _
    rw [c_21]
    show Steps p.tables e below (s₁.setTop (mkF m 19 #[vI p0, vI p1, vI p2, vI p3, vI (3 : Int32), .unset, .unset, .unset, .unset, .unset, .unset] [(.int (2 : Int32))])) _
    refine XS.istore X0.here hx rfl (hb hby at_19) rfl (l' := #[vI p0, vI p1, vI p2, vI p3, vI (3 : Int32), .unset, vI (2 : Int32), .unset, .unset, .unset, .unset]) rfl ?_
    refine XS.iloadN X0.here hx rfl (hb hby at_21) rfl ?_
    show Steps p.tables e below (s₁.setTop (mkF m 22 #[vI p0, vI p1, vI p2, vI p3, vI (3 : Int32), .unset, vI (2 : Int32), .unset, .unset, .unset, .unset] [(.int p2)])) _
    refine XS.sipush X0.here hx rfl (hb hby at_22) ?_
    refine XS.iand X0.here hx rfl (hb hby at_25) rfl ?_
    show Steps p.tables e below (s₁.setTop (mkF m 26 #[vI p0, vI p1, vI p2, vI p3, vI (3 : Int32), .unset, vI (2 : Int32), .unset, .unset, .unset, .unset] [(.int (p2 &&& (255 : Int32)))])) _
    refine XS.i2c X0.here hx rfl (hb hby at_26) rfl ?_
    show Steps p.tables e below (s₁.setTop (mkF m 27 #[vI p0, vI p1, vI p2, vI p3, vI (3 : Int32), .unset, vI (2 : Int32), .unset, .unset, .unset, .unset] [(.int ((p2 &&& (255 : Int32)).toUInt32.toUInt16.toUInt32.toInt32))])) _
    rw [c_22]
    show Steps p.tables e below (s₁.setTop (mkF m 27 #[vI p0, vI p1, vI p2, vI p3, vI (3 : Int32), .unset, vI (2 : Int32), .unset, .unset, .unset, .unset] [(.int c0)])) _
    refine XS.istore X0.here hx rfl (hb hby at_27) rfl (l' := #[vI p0, vI p1, vI p2, vI p3, vI (3 : Int32), .unset, vI (2 : Int32), vI c0, .unset, .unset, .unset]) rfl ?_
    refine XS.iloadN X0.here hx rfl (hb hby at_29) rfl ?_
    show Steps p.tables e below (s₁.setTop (mkF m 30 #[vI p0, vI p1, vI p2, vI p3, vI (3 : Int32), .unset, vI (2 : Int32), vI c0, .unset, .unset, .unset] [(.int p2)])) _
    refine XS.bipush X0.here hx rfl (hb hby at_30) ?_
    refine XS.iushr X0.here hx rfl (hb hby at_32) rfl ?_
    show Steps p.tables e below (s₁.setTop (mkF m 33 #[vI p0, vI p1, vI p2, vI p3, vI (3 : Int32), .unset, vI (2 : Int32), vI c0, .unset, .unset, .unset] [(.int ((p2.toUInt32 >>> ((8 : Int32) &&& 31).toUInt32).toInt32))])) _
    refine XS.sipush X0.here hx rfl (hb hby at_33) ?_
    refine XS.iand X0.here hx rfl (hb hby at_36) rfl ?_
    show Steps p.tables e below (s₁.setTop (mkF m 37 #[vI p0, vI p1, vI p2, vI p3, vI (3 : Int32), .unset, vI (2 : Int32), vI c0, .unset, .unset, .unset] [(.int (((p2.toUInt32 >>> ((8 : Int32) &&& 31).toUInt32).toInt32) &&& (255 : Int32)))])) _
    refine XS.i2c X0.here hx rfl (hb hby at_37) rfl ?_
    show Steps p.tables e below (s₁.setTop (mkF m 38 #[vI p0, vI p1, vI p2, vI p3, vI (3 : Int32), .unset, vI (2 : Int32), vI c0, .unset, .unset, .unset] [(.int ((((p2.toUInt32 >>> ((8 : Int32) &&& 31).toUInt32).toInt32) &&& (255 : Int32)).toUInt32.toUInt16.toUInt32.toInt32))])) _
    rw [c_23]
    show Steps p.tables e below (s₁.setTop (mkF m 38 #[vI p0, vI p1, vI p2, vI p3, vI (3 : Int32), .unset, vI (2 : Int32), vI c0, .unset, .unset, .unset] [(.int c1)])) _
    refine XS.istore X0.here hx rfl (hb hby at_38) rfl (l' := #[vI p0, vI p1, vI p2, vI p3, vI (3 : Int32), .unset, vI (2 : Int32), vI c0, vI c1, .unset, .unset]) rfl ?_
    refine XS.iloadN X0.here hx rfl (hb hby at_40) rfl ?_
    show Steps p.tables e below (s₁.setTop (mkF m 41 #[vI p0, vI p1, vI p2, vI p3, vI (3 : Int32), .unset, vI (2 : Int32), vI c0, vI c1, .unset, .unset] [(.int p2)])) _
    refine XS.bipush X0.here hx rfl (hb hby at_41) ?_
    refine XS.iushr X0.here hx rfl (hb hby at_43) rfl ?_
    show Steps p.tables e below (s₁.setTop (mkF m 44 #[vI p0, vI p1, vI p2, vI p3, vI (3 : Int32), .unset, vI (2 : Int32), vI c0, vI c1, .unset, .unset] [(.int ((p2.toUInt32 >>> ((16 : Int32) &&& 31).toUInt32).toInt32))])) _
    refine XS.sipush X0.here hx rfl (hb hby at_44) ?_
    refine XS.iand X0.here hx rfl (hb hby at_47) rfl ?_
    show Steps p.tables e below (s₁.setTop (mkF m 48 #[vI p0, vI p1, vI p2, vI p3, vI (3 : Int32), .unset, vI (2 : Int32), vI c0, vI c1, .unset, .unset] [(.int (((p2.toUInt32 >>> ((16 : Int32) &&& 31).toUInt32).toInt32) &&& (255 : Int32)))])) _
    refine XS.i2c X0.here hx rfl (hb hby at_48) rfl ?_
    show Steps p.tables e below (s₁.setTop (mkF m 49 #[vI p0, vI p1, vI p2, vI p3, vI (3 : Int32), .unset, vI (2 : Int32), vI c0, vI c1, .unset, .unset] [(.int ((((p2.toUInt32 >>> ((16 : Int32) &&& 31).toUInt32).toInt32) &&& (255 : Int32)).toUInt32.toUInt16.toUInt32.toInt32))])) _
    rw [c_24]
    show Steps p.tables e below (s₁.setTop (mkF m 49 #[vI p0, vI p1, vI p2, vI p3, vI (3 : Int32), .unset, vI (2 : Int32), vI c0, vI c1, .unset, .unset] [(.int c2)])) _
    refine XS.istore X0.here hx rfl (hb hby at_49) rfl (l' := #[vI p0, vI p1, vI p2, vI p3, vI (3 : Int32), .unset, vI (2 : Int32), vI c0, vI c1, vI c2, .unset]) rfl ?_
    refine XS.iload X0.here hx rfl (hb hby at_51) rfl ?_
    show Steps p.tables e below (s₁.setTop (mkF m 53 #[vI p0, vI p1, vI p2, vI p3, vI (3 : Int32), .unset, vI (2 : Int32), vI c0, vI c1, vI c2, .unset] [(.int (2 : Int32))])) _
    refine XS.ifYes X0.here hx rfl (pc0 := 53) (pc' := 71) rfl (hb hby at_53) rfl ((if0 _ _).trans (feq (by decide : ¬ ((2 : Int32) = (0 : Int32)))).2) (by decide) (by decide) ?_
    refine XS.iload X0.here hx rfl (hb hby at_71) rfl ?_
    show Steps p.tables e below (s₁.setTop (mkF m 73 #[vI p0, vI p1, vI p2, vI p3, vI (3 : Int32), .unset, vI (2 : Int32), vI c0, vI c1, vI c2, .unset] [(.int (2 : Int32))])) _
    refine XS.iconst X0.here hx rfl (hb hby at_73) ?_
    refine XS.icmpYes X0.here hx rfl (pc0 := 74) (pc' := 87) rfl (hb hby at_74) rfl (feq (by decide : ¬ ((2 : Int32) = (1 : Int32)))).2 (by decide) (by decide) ?_
    show Steps p.tables e below (s₁.setTop (mkF m 87 #[vI p0, vI p1, vI p2, vI p3, vI (3 : Int32), .unset, vI (2 : Int32), vI c0, vI c1, vI c2, .unset] [])) _
    refine XS.iload X0.here hx rfl (hb hby at_87) rfl ?_
    refine XS.iconst X0.here hx rfl (hb hby at_89) ?_
    show Steps p.tables e below (s₁.setTop (mkF m 90 #[vI p0, vI p1, vI p2, vI p3, vI (3 : Int32), .unset, vI (2 : Int32), vI c0, vI c1, vI c2, .unset] [(.int (2 : Int32)), (.int (2 : Int32))])) _
    refine XS.icmpNo X0.here hx rfl (hb hby at_90) rfl (teq (by decide : (2 : Int32) = (2 : Int32))).2 ?_
    refine st25 _ ?_
    show Steps p.tables e below (T25.setTop (mkF m 96 #[vI p0, vI p1, vI p2, vI p3, vI (3 : Int32), .unset, vI (2 : Int32), vI c0, vI c1, vI c2, .unset] [(.ref b25)])) _
    refine XS.dup X25.here hx rfl (hb hby at_96) rfl rfl ?_
    refine XS.iconst X25.here hx rfl (hb hby at_97) ?_
    show Steps p.tables e below (T25.setTop (mkF m 98 #[vI p0, vI p1, vI p2, vI p3, vI (3 : Int32), .unset, vI (2 : Int32), vI c0, vI c1, vI c2, .unset] [(.int (2 : Int32)), (.ref b25), (.ref b25)])) _
    refine st30 _ ?_
    refine XS.dup X30.here hx rfl (hb hby at_100) rfl rfl ?_
    show Steps p.tables e below (T30.setTop (mkF m 101 #[vI p0, vI p1, vI p2, vI p3, vI (3 : Int32), .unset, vI (2 : Int32), vI c0, vI c1, vI c2, .unset] [(.ref b30), (.ref b30), (.ref b25), (.ref b25)])) _
    refine XS.iconst X30.here hx rfl (hb hby at_101) ?_
    refine XS.iload X30.here hx rfl (hb hby at_102) rfl ?_
    show Steps p.tables e below (T30.setTop (mkF m 104 #[vI p0, vI p1, vI p2, vI p3, vI (3 : Int32), .unset, vI (2 : Int32), vI c0, vI c1, vI c2, .unset] [(.int c0), (.int (0 : Int32)), (.ref b30), (.ref b30), (.ref b25), (.ref b25)])) _
    refine st35 _ ?_
    refine XS.dup X35.here hx rfl (hb hby at_105) rfl rfl ?_
    show Steps p.tables e below (T35.setTop (mkF m 106 #[vI p0, vI p1, vI p2, vI p3, vI (3 : Int32), .unset, vI (2 : Int32), vI c0, vI c1, vI c2, .unset] [(.ref b30), (.ref b30), (.ref b25), (.ref b25)])) _
    refine XS.iconst X35.here hx rfl (hb hby at_106) ?_
    refine XS.iload X35.here hx rfl (hb hby at_107) rfl ?_
    show Steps p.tables e below (T35.setTop (mkF m 109 #[vI p0, vI p1, vI p2, vI p3, vI (3 : Int32), .unset, vI (2 : Int32), vI c0, vI c1, vI c2, .unset] [(.int c1), (.int (1 : Int32)), (.ref b30), (.ref b30), (.ref b25), (.ref b25)])) _
    refine st43 _ ?_
    refine st62.trans ?_
    show Steps p.tables e below (T62.setTop (mkF m 113 #[vI p0, vI p1, vI p2, vI p3, vI (3 : Int32), .unset, vI (2 : Int32), vI c0, vI c1, vI c2, .unset] [(.ref b25)])) _
    refine XS.astore X62.here hx rfl (hb hby at_113) rfl rfl (l' := #[vI p0, vI p1, vI p2, vI p3, vI (3 : Int32), vR b25, vI (2 : Int32), vI c0, vI c1, vI c2, .unset]) rfl ?_
    refine XS.goto X62.here hx rfl (pc0 := 115) (pc' := 145) rfl (hb hby at_115) (by decide) (by decide) ?_
    show Steps p.tables e below (T62.setTop (mkF m 145 #[vI p0, vI p1, vI p2, vI p3, vI (3 : Int32), vR b25, vI (2 : Int32), vI c0, vI c1, vI c2, .unset] [])) _
    refine XS.goto X62.here hx rfl (pc0 := 145) (pc' := 225) rfl (hb hby at_145) (by decide) (by decide) ?_
    refine XS.aload X62.here hx rfl (hb hby at_225) rfl rfl ?_
    show Steps p.tables e below (T62.setTop (mkF m 227 #[vI p0, vI p1, vI p2, vI p3, vI (3 : Int32), vR b25, vI (2 : Int32), vI c0, vI c1, vI c2, .unset] [(.ref b25)])) _
    refine st67 _ ?_
    refine XS.aload X67.here hx rfl (hb hby at_230) rfl rfl ?_
    show Steps p.tables e below (T67.setTop (mkF m 232 #[vI p0, vI p1, vI p2, vI p3, vI (3 : Int32), vR b25, vI (2 : Int32), vI c0, vI c1, vI c2, .unset] [(.ref b25), (own_db ([(nar .char c0), (nar .char c1)] : List Int32) w_H2 w_POSTGRESQL w_MARIADB)])) _
    refine st71.trans ?_
    refine Jvm.RoadKit.acmp (g := (mkF m 235 #[vI p0, vI p1, vI p2, vI p3, vI (3 : Int32), vR b25, vI (2 : Int32), vI c0, vI c1, vI c2, .unset] [(own_db ([(nar .char c0), (nar .char c1)] : List Int32) w_H2 w_POSTGRESQL w_MARIADB), (own_db ([(nar .char c0), (nar .char c1)] : List Int32) w_H2 w_POSTGRESQL w_MARIADB)])) X71 hx rfl (own_dbR _ _ _ _) (own_dbR _ _ _ _) (pc0 := 235) (pc' := 238) (same := true) rfl (hb hby at_235) rfl (decide_eq_true rfl) (by decide) (by decide) ?_
    show Steps p.tables e below (T71.setTop (mkF m 238 #[vI p0, vI p1, vI p2, vI p3, vI (3 : Int32), vR b25, vI (2 : Int32), vI c0, vI c1, vI c2, .unset] [])) _
    refine XS.iconst X71.here hx rfl (hb hby at_238) ?_
    refine XS.goto X71.here hx rfl (pc0 := 239) (pc' := 243) rfl (hb hby at_239) (by decide) (by decide) ?_
    show Steps p.tables e below (T71.setTop (mkF m 243 #[vI p0, vI p1, vI p2, vI p3, vI (3 : Int32), vR b25, vI (2 : Int32), vI c0, vI c1, vI c2, .unset] [(.int (1 : Int32))])) _
    exact retN X71 hx (t := .boolean) Bd.returns (by simp) (hb hby at_243) hr
  · show Q0k3r2 Z w_VALUES k_VALUES w_H2 w_POSTGRESQL w_MARIADB w_COMPACT_STRINGS w_SIOOBE_FORMATTER pv_H2 pv_POSTGRESQL pv_MARIADB c0 c1 c2 p0 p1 p2 p3 h0 n0 _ T71.heap _
    exact ⟨rfl, N71⟩
def Q0k3r3 (Z : State) (w_VALUES : Addr) (k_VALUES : ClassId) (w_H2 : Addr) (w_POSTGRESQL : Addr) (w_MARIADB : Addr) (w_COMPACT_STRINGS : Int32) (w_SIOOBE_FORMATTER : Value) (pv_H2 : Addr) (pv_POSTGRESQL : Addr) (pv_MARIADB : Addr) (c0 : Int32) (c1 : Int32) (c2 : Int32) (p0 : Int32) (p1 : Int32) (p2 : Int32) (p3 : Int32) (h0 : Heap) (n0 : Nat) (v : Option Value) (h : Heap) (L : List Loc) : Prop := v = some (.int (1 : Int32)) ∧ Fr n0 L
set_option maxRecDepth 65536 in
set_option maxHeartbeats 40000000 in
theorem rm0k3r3 (l : Launch) (Z : State) (A0 : Array Value) (hw : ∀ d ∈ tables_1, d.before A0 Z = true) (ws : List Jvm.Cond) (w_VALUES : Addr) (k_VALUES : ClassId) (w_H2 : Addr) (w_POSTGRESQL : Addr) (w_MARIADB : Addr) (w_COMPACT_STRINGS : Int32) (w_SIOOBE_FORMATTER : Value) (pv_H2 : Addr) (pv_POSTGRESQL : Addr) (pv_MARIADB : Addr) (c0 : Int32) (c1 : Int32) (c2 : Int32) (p0 : Int32) (p1 : Int32) (p2 : Int32) (p3 : Int32) (h0 : Heap) (n0 : Nat) (OLD : Old Z n0 h0) (f_1 : Sta Z Z.heap "com/example/seshat/seshat/jpql/Database" "$VALUES" "[Lcom/example/seshat/seshat/jpql/Database;" (.ref w_VALUES)) (f_2 : Exa Z Z.heap w_VALUES "[Lcom/example/seshat/seshat/jpql/Database;") (f_3 : Arv Z Z.heap w_VALUES k_VALUES (.object "com/example/seshat/seshat/jpql/Database") (3 : Int32) [(.ref w_H2), (.ref w_POSTGRESQL), (.ref w_MARIADB)] .null) (f_4 : Sta Z Z.heap "java/lang/String" "COMPACT_STRINGS" "Z" (.int w_COMPACT_STRINGS)) (c_5 : ¬ (w_COMPACT_STRINGS = (0 : Int32))) (f_6 : Sta Z Z.heap "jdk/internal/util/Preconditions" "SIOOBE_FORMATTER" "Ljava/util/function/BiFunction;" w_SIOOBE_FORMATTER) (c_7 : w_SIOOBE_FORMATTER.isRef = true) (f_8 : Fld Z Z.heap w_H2 "com/example/seshat/seshat/jpql/Database" "propertyValue" "Ljava/lang/String;" (.ref pv_H2)) (f_9 : Fld Z Z.heap w_POSTGRESQL "com/example/seshat/seshat/jpql/Database" "propertyValue" "Ljava/lang/String;" (.ref pv_POSTGRESQL)) (f_10 : Fld Z Z.heap w_MARIADB "com/example/seshat/seshat/jpql/Database" "propertyValue" "Ljava/lang/String;" (.ref pv_MARIADB)) (f_11 : own_Txt Z Z.heap pv_H2 ([104, 50] : List Int32)) (f_12 : own_Txt Z Z.heap pv_POSTGRESQL ([112, 111, 115, 116, 103, 114, 101, 115, 113, 108] : List Int32)) (f_13 : own_Txt Z Z.heap pv_MARIADB ([109, 97, 114, 105, 97, 100, 98] : List Int32)) (f_14 : Sta Z Z.heap "com/example/seshat/seshat/jpql/Database" "H2" "Lcom/example/seshat/seshat/jpql/Database;" (.ref w_H2)) (f_15 : Sta Z Z.heap "com/example/seshat/seshat/jpql/Database" "POSTGRESQL" "Lcom/example/seshat/seshat/jpql/Database;" (.ref w_POSTGRESQL)) (f_16 : Sta Z Z.heap "com/example/seshat/seshat/jpql/Database" "MARIADB" "Lcom/example/seshat/seshat/jpql/Database;" (.ref w_MARIADB)) (c_17 : own_B c0) (c_18 : own_B c1) (c_19 : own_B c2) (c_20 : ((p0 &&& (2147483647 : Int32)) % (4 : Int32)) = (3 : Int32)) (c_21 : (((p1.toUInt32 >>> ((1 : Int32) &&& 31).toUInt32).toInt32) &&& (3 : Int32)) = (3 : Int32)) (c_22 : ((p2 &&& (255 : Int32)).toUInt32.toUInt16.toUInt32.toInt32) = c0) (c_23 : ((((p2.toUInt32 >>> ((8 : Int32) &&& 31).toUInt32).toInt32) &&& (255 : Int32)).toUInt32.toUInt16.toUInt32.toInt32) = c1) (c_24 : ((((p2.toUInt32 >>> ((16 : Int32) &&& 31).toUInt32).toInt32) &&& (255 : Int32)).toUInt32.toUInt16.toUInt32.toInt32) = c2) :
    MetFree l x (head1 (Jvm.Cond.code x code maxLocals ret :: ws) room_1) (fun a U => a = #[(.int p0), (.int p1), (.int p2), (.int p3)] ∧ Z.Warmed39 U.vm ∧ U.heap = h0 ∧ CHv Z consts_1 U.vm h0) (fun _ _ _ _ _ => True) (fun _ U o U' => ∃ v L, o = .returned v ∧ Q0k3r3 Z w_VALUES k_VALUES w_H2 w_POSTGRESQL w_MARIADB w_COMPACT_STRINGS w_SIOOBE_FORMATTER pv_H2 pv_POSTGRESQL pv_MARIADB c0 c1 c2 p0 p1 p2 p3 h0 n0 v U'.heap L ∧ CHr Z consts_1 U.vm U.heap U'.vm U'.heap ∧ ReturnedEndW U o U' L room_1.cells room_1.slots) := by
  refine MetFree.of_bodySF (plainFor_of_name pn_com_example_seshat_seshat_jpql_DatabaseNamedPinLaw) hisR ?_
  intro p e s m args below meth c s₁ Bd hml0 hP hK
  obtain ⟨rfl, hZ, hh, hCH⟩ := hP
  have hx := Bd.exec
  have hby := Bd.bytes
  have hml : c.maxLocals = 11 := hml0
  have hown : s.vm.findClass "com/example/seshat/seshat/jpql/DatabaseNamedPinLaw" = some m.cls := findClass_of_methodNamed Bd.named
  have hnm := (name_of_methodNamed Bd.named Bd.method).1
  have X0 : Stand p l e room_1 (s.setVm s.vm) m #[(.int p0), (.int p1), (.int p2), (.int p3)] below meth c s₁ [] 0 0 := Stand.of_body Bd
  have e0 : s₁.heap = h0 := by rw [← hh, Bd.state]; rfl
  have hS0 : s.Since s.vm h0.size := (State.WarmedH.refl s).since _
  have hk0 : h0.size ≤ h0.size := Nat.le_refl _
  have hZ : Z.Warmed39 (s.setVm s.vm).vm := hZ
  have hown : (s.setVm s.vm).vm.findClass "com/example/seshat/seshat/jpql/DatabaseNamedPinLaw" = some m.cls := hown
  have CH0 : CHr Z consts_1 (s.setVm s.vm).vm h0 (s.setVm s.vm).vm h0 := CHr.refl hCH
  have N0 := Fr.nil n0
  have pre0 : ∀ t, Steps p.tables e below (s₁.setTop (mkF m 0 #[vI p0, vI p1, vI p2, vI p3, .unset, .unset, .unset, .unset, .unset, .unset, .unset] [])) t → Steps p.tables e below (s₁.setTop (entryFrame m #[(.int p0), (.int p1), (.int p2), (.int p3)] maxLocals)) t := fun t k => castTop (ef_0 m p0 p1 p2 p3) k
  obtain ⟨T25, h25, X25, e25, E25, A25, D25, M25, st25⟩ := newO X0 hx hZ hown (hw _ (List.mem_of_getElem? (i := 106) rfl)) (hw _ (List.mem_of_getElem? (i := 3) rfl)) (hw _ (List.mem_of_getElem? (i := 2) rfl)) e0 (g := (mkF m 118 #[vI p0, vI p1, vI p2, vI p3, vI (3 : Int32), .unset, vI (3 : Int32), vI c0, vI c1, vI c2, .unset] [])) rfl (hb hby at_118) (by decide) (by decide)
  obtain ⟨b25, g25⟩ : ∃ z, z = h0.size := ⟨_, rfl⟩
  rw [← g25] at A25 D25 M25 st25
  have K_26 : Keep h0 h25 [] := (Keep.refl h0 []).ext E25
  have CH_27 := CH0.trans (CHr.ext E25 CH0.1)
  have f_28 : Fld Z h25 b25 "java/lang/String" "value" "[B" .null := (D25 (Or.inr (hw _ (List.mem_of_getElem? (i := 5) rfl))) (ty := (.array .byte)) (by decide))
  have f_29 : Fld Z h25 b25 "java/lang/String" "coder" "B" (.int (0 : Int32)) := (D25 (Or.inr (hw _ (List.mem_of_getElem? (i := 6) rfl))) (ty := .byte) (by decide))
  obtain ⟨T30, h30, k30, X30, e30, E30, A30, st30⟩ := newP X25 hx hZ (hw _ (List.mem_of_getElem? (i := 107) rfl)) e25 (g := (mkF m 123 #[vI p0, vI p1, vI p2, vI p3, vI (3 : Int32), .unset, vI (3 : Int32), vI c0, vI c1, vI c2, .unset] [(.int (3 : Int32)), (.ref b25), (.ref b25)])) rfl (hb hby at_123) rfl (by decide) (cap := 3) (by decide) (by decide) (by decide) (by decide)
  obtain ⟨b30, g30⟩ : ∃ z, z = h25.size := ⟨_, rfl⟩
  rw [← g30] at A30 st30
  have K_31 : Keep h0 h30 [] := K_26.ext E30
  have CH_32 := CH_27.trans (CHr.ext E30 CH_27.1)
  have f_33 : Arv Z h30 b30 k30 .char (3 : Int32) [(.int (0 : Int32)), (.int (0 : Int32)), (.int (0 : Int32))] (.int (0 : Int32)) := (Arv.new A30 (by decide)).pad (pad_rep [] (.int (0 : Int32)) 3)
  obtain ⟨cl34, Ar34, q34, s34, n34, hh34, gg34⟩ := id (f_33)
  have hin34 : ¬ ((0 : Int32) < 0 ∨ cl34.slots.size ≤ ((0 : Int32)).toNatClampNeg) := inb_of s34 ⟨by decide, by decide⟩
  obtain ⟨T35, h35, X35, e35, W35, st35⟩ := stC X30 hx hZ e30 Ar34 (j := (0 : Int32)) hin34 (g := (mkF m 129 #[vI p0, vI p1, vI p2, vI p3, vI (3 : Int32), .unset, vI (3 : Int32), vI c0, vI c1, vI c2, .unset] [(.int c0), (.int (0 : Int32)), (.ref b30), (.ref b30), (.ref b25), (.ref b25)])) rfl rfl (hb hby at_129)
  have O_36 := Old.ext OLD E25
  have ge_37 : n0 ≤ b30 := own_ge O_36 (Nat.le_of_eq g30.symm)
  have N35 := Fr.snoc X35 N0 ge_37
  have f_38 : Arv Z h35 b30 k30 .char (3 : Int32) [(.int (nar .char c0)), (.int (0 : Int32)), (.int (0 : Int32))] (.int (0 : Int32)) := Arv.set Ar34 q34 s34 n34 hh34 gg34 (fits_nar_char _) W35 0 rfl (Nat.le_of_ble_eq_true rfl)
  have K_39 : Keep h0 h35 [] := K_31.wr W35 (Or.inr (Nat.le_trans K_26.1 (Nat.le_of_eq g30.symm)))
  have sf_40 : Safe Z consts_1 _ h30 b30 := Safe.arv (EL := consts_1) hZ.alike f_33 (by decide)
  have CH_41 := CH_32.trans (CHr.wr W35 sf_40 CH_32.1)
  obtain ⟨cl42, Ar42, q42, s42, n42, hh42, gg42⟩ := id (f_38)
  have hin42 : ¬ ((1 : Int32) < 0 ∨ cl42.slots.size ≤ ((1 : Int32)).toNatClampNeg) := inb_of s42 ⟨by decide, by decide⟩
  obtain ⟨T43, h43, X43, e43, W43, st43⟩ := stC X35 hx hZ e35 Ar42 (j := (1 : Int32)) hin42 (g := (mkF m 134 #[vI p0, vI p1, vI p2, vI p3, vI (3 : Int32), .unset, vI (3 : Int32), vI c0, vI c1, vI c2, .unset] [(.int c1), (.int (1 : Int32)), (.ref b30), (.ref b30), (.ref b25), (.ref b25)])) rfl rfl (hb hby at_134)
  have N43 := Fr.snoc X43 N35 ge_37
  have f_44 : Arv Z h43 b30 k30 .char (3 : Int32) [(.int (nar .char c0)), (.int (nar .char c1)), (.int (0 : Int32))] (.int (0 : Int32)) := Arv.set Ar42 q42 s42 n42 hh42 gg42 (fits_nar_char _) W43 1 rfl (Nat.le_of_ble_eq_true rfl)
  have K_45 : Keep h0 h43 [] := K_39.wr W43 (Or.inr (Nat.le_trans K_26.1 (Nat.le_of_eq g30.symm)))
  have sf_46 : Safe Z consts_1 _ h35 b30 := Safe.arv (EL := consts_1) hZ.alike f_38 (by decide)
  have CH_47 := CH_41.trans (CHr.wr W43 sf_46 CH_41.1)
  obtain ⟨cl48, Ar48, q48, s48, n48, hh48, gg48⟩ := id (f_44)
  have hin48 : ¬ ((2 : Int32) < 0 ∨ cl48.slots.size ≤ ((2 : Int32)).toNatClampNeg) := inb_of s48 ⟨by decide, by decide⟩
  obtain ⟨T49, h49, X49, e49, W49, st49⟩ := stC X43 hx hZ e43 Ar48 (j := (2 : Int32)) hin48 (g := (mkF m 139 #[vI p0, vI p1, vI p2, vI p3, vI (3 : Int32), .unset, vI (3 : Int32), vI c0, vI c1, vI c2, .unset] [(.int c2), (.int (2 : Int32)), (.ref b30), (.ref b30), (.ref b25), (.ref b25)])) rfl rfl (hb hby at_139)
  have N49 := Fr.snoc X49 N43 ge_37
  have f_50 : Arv Z h49 b30 k30 .char (3 : Int32) [(.int (nar .char c0)), (.int (nar .char c1)), (.int (nar .char c2))] (.int (0 : Int32)) := Arv.set Ar48 q48 s48 n48 hh48 gg48 (fits_nar_char _) W49 2 rfl (Nat.le_of_ble_eq_true rfl)
  have K_51 : Keep h0 h49 [] := K_45.wr W49 (Or.inr (Nat.le_trans K_26.1 (Nat.le_of_eq g30.symm)))
  have sf_52 : Safe Z consts_1 _ h43 b30 := Safe.arv (EL := consts_1) hZ.alike f_44 (by decide)
  have CH_53 := CH_47.trans (CHr.wr W49 sf_52 CH_47.1)
  have O_54 := Old.ext O_36 E30
  have O_55 := Old.wr O_54 W35 ge_37
  have O_56 := Old.wr O_55 W43 ge_37
  have O_57 := Old.wr O_56 W49 ge_37
  have ge_58 : n0 ≤ b25 := own_ge OLD (Nat.le_of_eq g25.symm)
  have f_59 := A25.ext E30
  have f_60 := f_59.wr W35
  have f_61 := f_60.wr W43
  have f_62 := f_61.wr W49
  have f_63 := f_28.ext E30
  have ne_64 : b25 ≠ b30 := Nat.ne_of_lt (Nat.lt_of_lt_of_le A25.lt (Nat.le_of_eq g30.symm))
  have f_65 := f_63.other W35 (Or.inl ne_64)
  have f_66 := f_65.other W43 (Or.inl ne_64)
  have f_67 := f_66.other W49 (Or.inl ne_64)
  have f_68 := f_29.ext E30
  have f_69 := f_68.other W35 (Or.inl ne_64)
  have f_70 := f_69.other W43 (Or.inl ne_64)
  have f_71 := f_70.other W49 (Or.inl ne_64)
  obtain ⟨_, _, ⟨T72, L72, k72, n72⟩, -, X72, ⟨Lc72, hQ72, l72, y72, z72⟩, st72⟩ := X49.specialBack hx (y := (⟨"java/lang/String", "<init>", "([C)V"⟩ : MethodName)) rfl hown (mvT hZ (hw _ (List.mem_of_getElem? (i := 108) rfl))) (mvT hZ (hw _ (List.mem_of_getElem? (i := 109) rfl))) (mvT hZ (hw _ (List.mem_of_getElem? (i := 110) rfl))) (by decide) (own_newB (W := 1) (n := 3) (cs := ([(nar .char c0), (nar .char c1), (nar .char c2)] : List Int32)) hZ hw O_57 f_4 c_5 ge_58 f_62 f_67 f_71 f_50 rfl (by decide) (by decide) (own_cS (own_bn c_17) (own_cS (own_bn c_18) (own_cS (own_bn c_19) own_c0))) (by decide) (by decide)) (g := (mkF m 140 #[vI p0, vI p1, vI p2, vI p3, vI (3 : Int32), .unset, vI (3 : Int32), vI c0, vI c1, vI c2, .unset] [(.ref b30), (.ref b25), (.ref b25)])) rfl (by rw [hml]; rfl) (Steps.refl _) (a := b25) (argsL := [(.ref b30)]) (rest := [(.ref b25)]) (lenOf pd_7 rfl) rfl (by show 2 * 0 + _ ≤ _; exact Nat.le_of_eq rfl) (hb hby at_140) (fun _ _ => ⟨rfl, e49, (by decide : 2 + 1 ≤ _), (by decide : 7 + 3 ≤ _)⟩)
  dsimp only [Pt.U, Pt.locs, Pt.cells, Pt.slots] at X72 l72 y72 z72 st72 hQ72
  subst l72 y72 z72
  obtain ⟨rfl, N72q, K72, g72_0⟩ := hQ72
  have N72 := Fr.app N49 N72q
  have K_73 : Keep h0 T72.heap [] := Keep.trans K_51 K72 (allS (Or.inr (Nat.le_trans (Keep.refl h0 []).1 (Nat.le_of_eq g25.symm))) all0)
  have sf_74 : Safe Z consts_1 _ h49 b25 := own_safeNull (EL := consts_1) hZ.alike f_62 f_67
  have CH_75 := CH_53.trans (CHr.keep K72 (sfS sf_74 sf0) CH_53.1)
  have O_76 := Old.keep O_57 K72 (allS ge_58 all0)
  obtain ⟨_, _, ⟨T77, L77, k77, n77⟩, -, X77, ⟨Lc77, hQ77, l77, y77, z77⟩, st77⟩ := Jvm.LawKit.callS X72 hx (y := (⟨"com/example/seshat/seshat/jpql/Database", "named", "(Ljava/lang/String;)Lcom/example/seshat/seshat/jpql/Database;"⟩ : MethodName)) hown (mvT hZ (hw _ (List.mem_of_getElem? (i := 68) rfl))) (mvT hZ (hw _ (List.mem_of_getElem? (i := 69) rfl))) (mvT hZ (hw _ (List.mem_of_getElem? (i := 70) rfl))) (mvT hZ (hw _ (List.mem_of_getElem? (i := 71) rfl))) (by decide) (backOf (W := 0) (rm15 l Z A0 hw [] w_VALUES k_VALUES w_H2 w_POSTGRESQL w_MARIADB ([(nar .char c0), (nar .char c1), (nar .char c2)] : List Int32) w_COMPACT_STRINGS pv_H2 pv_POSTGRESQL pv_MARIADB b25 T72.heap n0 O_76 f_1 f_2 f_3 g72_0 f_4 c_5 f_8 f_9 f_10 f_11 f_12 f_13) hZ (hw _ (List.mem_of_getElem? (i := 71) rfl)) (hw _ (List.mem_of_getElem? (i := 70) rfl)) (by decide) (by decide)) (g := (mkF m 227 #[vI p0, vI p1, vI p2, vI p3, vI (3 : Int32), vR b25, vI (3 : Int32), vI c0, vI c1, vI c2, .unset] [(.ref b25)])) rfl (by rw [hml]; rfl) (argsL := [(.ref b25)]) (rest := []) (lenOf pd_12 rfl) rfl (by show 2 * 0 + _ ≤ _; exact Nat.le_of_eq rfl) (hb hby at_227) (fun _ _ => ⟨rfl, rfl, (by decide : 3 + 1 ≤ _), (by decide : 10 + 3 ≤ _)⟩)
  dsimp only [Pt.U, Pt.locs, Pt.cells, Pt.slots] at X77 l77 y77 z77 st77 hQ77
  subst l77 y77 z77
  obtain ⟨rfl, N77q, K77⟩ := hQ77
  have N77 := Fr.app N72 N77q
  have K_78 : Keep h0 T77.heap [] := Keep.trans K_73 K77 all0
  have CH_79 := CH_75.trans (CHr.keep K77 sf0 CH_75.1)
  have f_80 := g72_0.keep0 K77
  have O_82 := Old.keep O_76 K77 all0
  obtain ⟨_, _, ⟨T81, L81, k81, n81⟩, -, X81, hS81q, hg81q, ⟨Lc81, hQ81, l81, y81, z81, C81⟩, st81⟩ := callSS X77 hx (y := (⟨"com/example/seshat/seshat/jpql/DatabaseNamedPinLaw", "expected", "(Ljava/lang/String;)Lcom/example/seshat/seshat/jpql/Database;"⟩ : MethodName)) hown (mvT hZ (hw _ (List.mem_of_getElem? (i := 100) rfl))) (mvT hZ (hw _ (List.mem_of_getElem? (i := 101) rfl))) (mvT hZ (hw _ (List.mem_of_getElem? (i := 24) rfl))) (mvT hZ (hw _ (List.mem_of_getElem? (i := 102) rfl))) (by decide) (backOfSH (W := 1) (rm19 l Z A0 hw [] ([(nar .char c0), (nar .char c1), (nar .char c2)] : List Int32) w_COMPACT_STRINGS w_H2 w_POSTGRESQL w_MARIADB b25 T77.heap n0 O_82 f_80 f_4 c_5 f_14 f_15 f_16) hZ (hw _ (List.mem_of_getElem? (i := 102) rfl)) (hw _ (List.mem_of_getElem? (i := 24) rfl)) (by decide) (by decide) (own_EW hw) CH_79.1) (g := (mkF m 232 #[vI p0, vI p1, vI p2, vI p3, vI (3 : Int32), vR b25, vI (3 : Int32), vI c0, vI c1, vI c2, .unset] [(.ref b25), (own_db ([(nar .char c0), (nar .char c1), (nar .char c2)] : List Int32) w_H2 w_POSTGRESQL w_MARIADB)])) rfl (by rw [hml]; rfl) (argsL := [(.ref b25)]) (rest := [(own_db ([(nar .char c0), (nar .char c1), (nar .char c2)] : List Int32) w_H2 w_POSTGRESQL w_MARIADB)]) (lenOf pd_12 rfl) rfl (by show 2 * 0 + _ ≤ _; simp [own_dbC]) (hb hby at_232) (fun _ _ => ⟨rfl, rfl, (by decide : 4 + 6 ≤ _), (by decide : 13 + 100 ≤ _)⟩)
  dsimp only [Pt.U, Pt.locs, Pt.cells, Pt.slots] at X81 l81 y81 z81 st81 hQ81
  subst l81 y81 z81
  dsimp only [Pt.U, Pt.locs, Pt.cells, Pt.slots] at hS81q hg81q
  have hS81 := foldS (T := T77) hS0 (Nat.le_trans (Nat.le_trans (Nat.le_trans (Nat.le_trans (Nat.le_trans (Nat.le_trans (Nat.le_trans hk0 E25.1) E30.1) (Keep.of_wr W35).1) (Keep.of_wr W43).1) (Keep.of_wr W49).1) K72.1) K77.1) hS81q hg81q
  have hZ81 : Z.Warmed39 (s.setVm T81.vm).vm := State.Warmed39.trans (t := s.setVm _) hZ hS81q.1
  have hown81 : (s.setVm T81.vm).vm.findClass "com/example/seshat/seshat/jpql/DatabaseNamedPinLaw" = some m.cls := by rw [show (s.setVm T81.vm).vm = T81.vm from rfl, hS81q.1.alike.findClass]; exact hown
  have X81 : Stand p l e room_1 (s.setVm T81.vm) m _ below meth c T81 _ _ _ := X81
  dsimp only [Pt.U] at C81
  obtain ⟨rfl, N81q, K81⟩ := hQ81
  have N81 := Fr.app N77 N81q
  have K_83 : Keep h0 T81.heap [] := Keep.trans K_78 K81 all0
  have CH_84 := CH_79.trans C81
  obtain ⟨fs, hr, hrun, hended, hRW⟩ := X81.leaveW (s := s) hS81 (Nat.le_refl _) (v := some (.int (1 : Int32))) (fun h => by rw [Bd.returns] at h; cases h)
  refine ⟨_, _, pre0 _ ?_, hrun, hended, _, _, rfl, ?_, (by have q := CH_84.trans (CHv.at X81 hZ81 (own_EW hw) CH_84.1); rw [hh]; show CHr Z consts_1 s.vm h0 T81.vm T81.heap; exact q), hRW.1, hRW.2.1, hRW.2.2.1, hRW.2.2.2.mono (by decide) (by decide)⟩
  · show Steps p.tables e below (s₁.setTop (mkF m 0 #[vI p0, vI p1, vI p2, vI p3, .unset, .unset, .unset, .unset, .unset, .unset, .unset] [])) _
    refine XS.iloadN X0.here hx rfl (hb hby at_0) rfl ?_
    refine X0.ldcInt hx hown (mvT hZ (hw _ (List.mem_of_getElem? (i := 0) rfl))) (g := (mkF m 1 #[vI p0, vI p1, vI p2, vI p3, .unset, .unset, .unset, .unset, .unset, .unset, .unset] [(.int p0)])) rfl (hb hby at_1) _ ?_
    show Steps p.tables e below (s₁.setTop (mkF m 3 #[vI p0, vI p1, vI p2, vI p3, .unset, .unset, .unset, .unset, .unset, .unset, .unset] [(.int (2147483647 : Int32)), (.int p0)])) _
    refine XS.iand X0.here hx rfl (hb hby at_3) rfl ?_
    refine XS.iconst X0.here hx rfl (hb hby at_4) ?_
    show Steps p.tables e below (s₁.setTop (mkF m 5 #[vI p0, vI p1, vI p2, vI p3, .unset, .unset, .unset, .unset, .unset, .unset, .unset] [(.int (4 : Int32)), (.int (p0 &&& (2147483647 : Int32)))])) _
    refine iremM (g := (mkF m 5 #[vI p0, vI p1, vI p2, vI p3, .unset, .unset, .unset, .unset, .unset, .unset, .unset] [(.int (4 : Int32)), (.int (p0 &&& (2147483647 : Int32)))])) X0 hx rfl (hb hby at_5) rfl (by decide) ?_
    show Steps p.tables e below (s₁.setTop (mkF m 6 #[vI p0, vI p1, vI p2, vI p3, .unset, .unset, .unset, .unset, .unset, .unset, .unset] [(.int ((p0 &&& (2147483647 : Int32)) % (4 : Int32)))])) _
    rw [c_20]
    show Steps p.tables e below (s₁.setTop (mkF m 6 #[vI p0, vI p1, vI p2, vI p3, .unset, .unset, .unset, .unset, .unset, .unset, .unset] [(.int (3 : Int32))])) _
    refine XS.istore X0.here hx rfl (hb hby at_6) rfl (l' := #[vI p0, vI p1, vI p2, vI p3, vI (3 : Int32), .unset, .unset, .unset, .unset, .unset, .unset]) rfl ?_
    refine XS.iload X0.here hx rfl (hb hby at_8) rfl ?_
    show Steps p.tables e below (s₁.setTop (mkF m 10 #[vI p0, vI p1, vI p2, vI p3, vI (3 : Int32), .unset, .unset, .unset, .unset, .unset, .unset] [(.int (3 : Int32))])) _
    refine XS.iconst X0.here hx rfl (hb hby at_10) ?_
    refine XS.icmpNo X0.here hx rfl (hb hby at_11) rfl (teq (by decide : (3 : Int32) = (3 : Int32))).2 ?_
    show Steps p.tables e below (s₁.setTop (mkF m 14 #[vI p0, vI p1, vI p2, vI p3, vI (3 : Int32), .unset, .unset, .unset, .unset, .unset, .unset] [])) _
    refine XS.iloadN X0.here hx rfl (hb hby at_14) rfl ?_
    refine XS.iconst X0.here hx rfl (hb hby at_15) ?_
    show Steps p.tables e below (s₁.setTop (mkF m 16 #[vI p0, vI p1, vI p2, vI p3, vI (3 : Int32), .unset, .unset, .unset, .unset, .unset, .unset] [(.int (1 : Int32)), (.int p1)])) _
    refine XS.iushr X0.here hx rfl (hb hby at_16) rfl ?_
    refine XS.iconst X0.here hx rfl (hb hby at_17) ?_
    show Steps p.tables e below (s₁.setTop (mkF m 18 #[vI p0, vI p1, vI p2, vI p3, vI (3 : Int32), .unset, .unset, .unset, .unset, .unset, .unset] [(.int (3 : Int32)), (.int ((p1.toUInt32 >>> ((1 : Int32) &&& 31).toUInt32).toInt32))])) _
    refine XS.iand X0.here hx rfl (hb hby at_18) rfl ?_
    show Steps p.tables e below (s₁.setTop (mkF m 19 #[vI p0, vI p1, vI p2, vI p3, vI (3 : Int32), .unset, .unset, .unset, .unset, .unset, .unset] [(.int (((p1.toUInt32 >>> ((1 : Int32) &&& 31).toUInt32).toInt32) &&& (3 : Int32)))])) _
    rw [c_21]
    show Steps p.tables e below (s₁.setTop (mkF m 19 #[vI p0, vI p1, vI p2, vI p3, vI (3 : Int32), .unset, .unset, .unset, .unset, .unset, .unset] [(.int (3 : Int32))])) _
    refine XS.istore X0.here hx rfl (hb hby at_19) rfl (l' := #[vI p0, vI p1, vI p2, vI p3, vI (3 : Int32), .unset, vI (3 : Int32), .unset, .unset, .unset, .unset]) rfl ?_
    refine XS.iloadN X0.here hx rfl (hb hby at_21) rfl ?_
    show Steps p.tables e below (s₁.setTop (mkF m 22 #[vI p0, vI p1, vI p2, vI p3, vI (3 : Int32), .unset, vI (3 : Int32), .unset, .unset, .unset, .unset] [(.int p2)])) _
    refine XS.sipush X0.here hx rfl (hb hby at_22) ?_
    refine XS.iand X0.here hx rfl (hb hby at_25) rfl ?_
    show Steps p.tables e below (s₁.setTop (mkF m 26 #[vI p0, vI p1, vI p2, vI p3, vI (3 : Int32), .unset, vI (3 : Int32), .unset, .unset, .unset, .unset] [(.int (p2 &&& (255 : Int32)))])) _
    refine XS.i2c X0.here hx rfl (hb hby at_26) rfl ?_
    show Steps p.tables e below (s₁.setTop (mkF m 27 #[vI p0, vI p1, vI p2, vI p3, vI (3 : Int32), .unset, vI (3 : Int32), .unset, .unset, .unset, .unset] [(.int ((p2 &&& (255 : Int32)).toUInt32.toUInt16.toUInt32.toInt32))])) _
    rw [c_22]
    show Steps p.tables e below (s₁.setTop (mkF m 27 #[vI p0, vI p1, vI p2, vI p3, vI (3 : Int32), .unset, vI (3 : Int32), .unset, .unset, .unset, .unset] [(.int c0)])) _
    refine XS.istore X0.here hx rfl (hb hby at_27) rfl (l' := #[vI p0, vI p1, vI p2, vI p3, vI (3 : Int32), .unset, vI (3 : Int32), vI c0, .unset, .unset, .unset]) rfl ?_
    refine XS.iloadN X0.here hx rfl (hb hby at_29) rfl ?_
    show Steps p.tables e below (s₁.setTop (mkF m 30 #[vI p0, vI p1, vI p2, vI p3, vI (3 : Int32), .unset, vI (3 : Int32), vI c0, .unset, .unset, .unset] [(.int p2)])) _
    refine XS.bipush X0.here hx rfl (hb hby at_30) ?_
    refine XS.iushr X0.here hx rfl (hb hby at_32) rfl ?_
    show Steps p.tables e below (s₁.setTop (mkF m 33 #[vI p0, vI p1, vI p2, vI p3, vI (3 : Int32), .unset, vI (3 : Int32), vI c0, .unset, .unset, .unset] [(.int ((p2.toUInt32 >>> ((8 : Int32) &&& 31).toUInt32).toInt32))])) _
    refine XS.sipush X0.here hx rfl (hb hby at_33) ?_
    refine XS.iand X0.here hx rfl (hb hby at_36) rfl ?_
    show Steps p.tables e below (s₁.setTop (mkF m 37 #[vI p0, vI p1, vI p2, vI p3, vI (3 : Int32), .unset, vI (3 : Int32), vI c0, .unset, .unset, .unset] [(.int (((p2.toUInt32 >>> ((8 : Int32) &&& 31).toUInt32).toInt32) &&& (255 : Int32)))])) _
    refine XS.i2c X0.here hx rfl (hb hby at_37) rfl ?_
    show Steps p.tables e below (s₁.setTop (mkF m 38 #[vI p0, vI p1, vI p2, vI p3, vI (3 : Int32), .unset, vI (3 : Int32), vI c0, .unset, .unset, .unset] [(.int ((((p2.toUInt32 >>> ((8 : Int32) &&& 31).toUInt32).toInt32) &&& (255 : Int32)).toUInt32.toUInt16.toUInt32.toInt32))])) _
    rw [c_23]
    show Steps p.tables e below (s₁.setTop (mkF m 38 #[vI p0, vI p1, vI p2, vI p3, vI (3 : Int32), .unset, vI (3 : Int32), vI c0, .unset, .unset, .unset] [(.int c1)])) _
    refine XS.istore X0.here hx rfl (hb hby at_38) rfl (l' := #[vI p0, vI p1, vI p2, vI p3, vI (3 : Int32), .unset, vI (3 : Int32), vI c0, vI c1, .unset, .unset]) rfl ?_
    refine XS.iloadN X0.here hx rfl (hb hby at_40) rfl ?_
    show Steps p.tables e below (s₁.setTop (mkF m 41 #[vI p0, vI p1, vI p2, vI p3, vI (3 : Int32), .unset, vI (3 : Int32), vI c0, vI c1, .unset, .unset] [(.int p2)])) _
    refine XS.bipush X0.here hx rfl (hb hby at_41) ?_
    refine XS.iushr X0.here hx rfl (hb hby at_43) rfl ?_
    show Steps p.tables e below (s₁.setTop (mkF m 44 #[vI p0, vI p1, vI p2, vI p3, vI (3 : Int32), .unset, vI (3 : Int32), vI c0, vI c1, .unset, .unset] [(.int ((p2.toUInt32 >>> ((16 : Int32) &&& 31).toUInt32).toInt32))])) _
    refine XS.sipush X0.here hx rfl (hb hby at_44) ?_
    refine XS.iand X0.here hx rfl (hb hby at_47) rfl ?_
    show Steps p.tables e below (s₁.setTop (mkF m 48 #[vI p0, vI p1, vI p2, vI p3, vI (3 : Int32), .unset, vI (3 : Int32), vI c0, vI c1, .unset, .unset] [(.int (((p2.toUInt32 >>> ((16 : Int32) &&& 31).toUInt32).toInt32) &&& (255 : Int32)))])) _
    refine XS.i2c X0.here hx rfl (hb hby at_48) rfl ?_
    show Steps p.tables e below (s₁.setTop (mkF m 49 #[vI p0, vI p1, vI p2, vI p3, vI (3 : Int32), .unset, vI (3 : Int32), vI c0, vI c1, .unset, .unset] [(.int ((((p2.toUInt32 >>> ((16 : Int32) &&& 31).toUInt32).toInt32) &&& (255 : Int32)).toUInt32.toUInt16.toUInt32.toInt32))])) _
    rw [c_24]
    show Steps p.tables e below (s₁.setTop (mkF m 49 #[vI p0, vI p1, vI p2, vI p3, vI (3 : Int32), .unset, vI (3 : Int32), vI c0, vI c1, .unset, .unset] [(.int c2)])) _
    refine XS.istore X0.here hx rfl (hb hby at_49) rfl (l' := #[vI p0, vI p1, vI p2, vI p3, vI (3 : Int32), .unset, vI (3 : Int32), vI c0, vI c1, vI c2, .unset]) rfl ?_
    refine XS.iload X0.here hx rfl (hb hby at_51) rfl ?_
    show Steps p.tables e below (s₁.setTop (mkF m 53 #[vI p0, vI p1, vI p2, vI p3, vI (3 : Int32), .unset, vI (3 : Int32), vI c0, vI c1, vI c2, .unset] [(.int (3 : Int32))])) _
    refine XS.ifYes X0.here hx rfl (pc0 := 53) (pc' := 71) rfl (hb hby at_53) rfl ((if0 _ _).trans (feq (by decide : ¬ ((3 : Int32) = (0 : Int32)))).2) (by decide) (by decide) ?_
    refine XS.iload X0.here hx rfl (hb hby at_71) rfl ?_
    show Steps p.tables e below (s₁.setTop (mkF m 73 #[vI p0, vI p1, vI p2, vI p3, vI (3 : Int32), .unset, vI (3 : Int32), vI c0, vI c1, vI c2, .unset] [(.int (3 : Int32))])) _
    refine XS.iconst X0.here hx rfl (hb hby at_73) ?_
    refine XS.icmpYes X0.here hx rfl (pc0 := 74) (pc' := 87) rfl (hb hby at_74) rfl (feq (by decide : ¬ ((3 : Int32) = (1 : Int32)))).2 (by decide) (by decide) ?_
    show Steps p.tables e below (s₁.setTop (mkF m 87 #[vI p0, vI p1, vI p2, vI p3, vI (3 : Int32), .unset, vI (3 : Int32), vI c0, vI c1, vI c2, .unset] [])) _
    refine XS.iload X0.here hx rfl (hb hby at_87) rfl ?_
    refine XS.iconst X0.here hx rfl (hb hby at_89) ?_
    show Steps p.tables e below (s₁.setTop (mkF m 90 #[vI p0, vI p1, vI p2, vI p3, vI (3 : Int32), .unset, vI (3 : Int32), vI c0, vI c1, vI c2, .unset] [(.int (2 : Int32)), (.int (3 : Int32))])) _
    refine XS.icmpYes X0.here hx rfl (pc0 := 90) (pc' := 118) rfl (hb hby at_90) rfl (feq (by decide : ¬ ((3 : Int32) = (2 : Int32)))).2 (by decide) (by decide) ?_
    refine st25 _ ?_
    show Steps p.tables e below (T25.setTop (mkF m 121 #[vI p0, vI p1, vI p2, vI p3, vI (3 : Int32), .unset, vI (3 : Int32), vI c0, vI c1, vI c2, .unset] [(.ref b25)])) _
    refine XS.dup X25.here hx rfl (hb hby at_121) rfl rfl ?_
    refine XS.iconst X25.here hx rfl (hb hby at_122) ?_
    show Steps p.tables e below (T25.setTop (mkF m 123 #[vI p0, vI p1, vI p2, vI p3, vI (3 : Int32), .unset, vI (3 : Int32), vI c0, vI c1, vI c2, .unset] [(.int (3 : Int32)), (.ref b25), (.ref b25)])) _
    refine st30 _ ?_
    refine XS.dup X30.here hx rfl (hb hby at_125) rfl rfl ?_
    show Steps p.tables e below (T30.setTop (mkF m 126 #[vI p0, vI p1, vI p2, vI p3, vI (3 : Int32), .unset, vI (3 : Int32), vI c0, vI c1, vI c2, .unset] [(.ref b30), (.ref b30), (.ref b25), (.ref b25)])) _
    refine XS.iconst X30.here hx rfl (hb hby at_126) ?_
    refine XS.iload X30.here hx rfl (hb hby at_127) rfl ?_
    show Steps p.tables e below (T30.setTop (mkF m 129 #[vI p0, vI p1, vI p2, vI p3, vI (3 : Int32), .unset, vI (3 : Int32), vI c0, vI c1, vI c2, .unset] [(.int c0), (.int (0 : Int32)), (.ref b30), (.ref b30), (.ref b25), (.ref b25)])) _
    refine st35 _ ?_
    refine XS.dup X35.here hx rfl (hb hby at_130) rfl rfl ?_
    show Steps p.tables e below (T35.setTop (mkF m 131 #[vI p0, vI p1, vI p2, vI p3, vI (3 : Int32), .unset, vI (3 : Int32), vI c0, vI c1, vI c2, .unset] [(.ref b30), (.ref b30), (.ref b25), (.ref b25)])) _
    refine XS.iconst X35.here hx rfl (hb hby at_131) ?_
    refine XS.iload X35.here hx rfl (hb hby at_132) rfl ?_
    show Steps p.tables e below (T35.setTop (mkF m 134 #[vI p0, vI p1, vI p2, vI p3, vI (3 : Int32), .unset, vI (3 : Int32), vI c0, vI c1, vI c2, .unset] [(.int c1), (.int (1 : Int32)), (.ref b30), (.ref b30), (.ref b25), (.ref b25)])) _
    refine st43 _ ?_
    refine XS.dup X43.here hx rfl (hb hby at_135) rfl rfl ?_
    show Steps p.tables e below (T43.setTop (mkF m 136 #[vI p0, vI p1, vI p2, vI p3, vI (3 : Int32), .unset, vI (3 : Int32), vI c0, vI c1, vI c2, .unset] [(.ref b30), (.ref b30), (.ref b25), (.ref b25)])) _
    refine XS.iconst X43.here hx rfl (hb hby at_136) ?_
    refine XS.iload X43.here hx rfl (hb hby at_137) rfl ?_
    show Steps p.tables e below (T43.setTop (mkF m 139 #[vI p0, vI p1, vI p2, vI p3, vI (3 : Int32), .unset, vI (3 : Int32), vI c0, vI c1, vI c2, .unset] [(.int c2), (.int (2 : Int32)), (.ref b30), (.ref b30), (.ref b25), (.ref b25)])) _
    refine st49 _ ?_
    refine st72.trans ?_
    show Steps p.tables e below (T72.setTop (mkF m 143 #[vI p0, vI p1, vI p2, vI p3, vI (3 : Int32), .unset, vI (3 : Int32), vI c0, vI c1, vI c2, .unset] [(.ref b25)])) _
    refine XS.astore X72.here hx rfl (hb hby at_143) rfl rfl (l' := #[vI p0, vI p1, vI p2, vI p3, vI (3 : Int32), vR b25, vI (3 : Int32), vI c0, vI c1, vI c2, .unset]) rfl ?_
    refine XS.goto X72.here hx rfl (pc0 := 145) (pc' := 225) rfl (hb hby at_145) (by decide) (by decide) ?_
    show Steps p.tables e below (T72.setTop (mkF m 225 #[vI p0, vI p1, vI p2, vI p3, vI (3 : Int32), vR b25, vI (3 : Int32), vI c0, vI c1, vI c2, .unset] [])) _
    refine XS.aload X72.here hx rfl (hb hby at_225) rfl rfl ?_
    refine st77 _ ?_
    show Steps p.tables e below (T77.setTop (mkF m 230 #[vI p0, vI p1, vI p2, vI p3, vI (3 : Int32), vR b25, vI (3 : Int32), vI c0, vI c1, vI c2, .unset] [(own_db ([(nar .char c0), (nar .char c1), (nar .char c2)] : List Int32) w_H2 w_POSTGRESQL w_MARIADB)])) _
    refine XS.aload X77.here hx rfl (hb hby at_230) rfl rfl ?_
    refine st81.trans ?_
    show Steps p.tables e below (T81.setTop (mkF m 235 #[vI p0, vI p1, vI p2, vI p3, vI (3 : Int32), vR b25, vI (3 : Int32), vI c0, vI c1, vI c2, .unset] [(own_db ([(nar .char c0), (nar .char c1), (nar .char c2)] : List Int32) w_H2 w_POSTGRESQL w_MARIADB), (own_db ([(nar .char c0), (nar .char c1), (nar .char c2)] : List Int32) w_H2 w_POSTGRESQL w_MARIADB)])) _
    refine Jvm.RoadKit.acmp (g := (mkF m 235 #[vI p0, vI p1, vI p2, vI p3, vI (3 : Int32), vR b25, vI (3 : Int32), vI c0, vI c1, vI c2, .unset] [(own_db ([(nar .char c0), (nar .char c1), (nar .char c2)] : List Int32) w_H2 w_POSTGRESQL w_MARIADB), (own_db ([(nar .char c0), (nar .char c1), (nar .char c2)] : List Int32) w_H2 w_POSTGRESQL w_MARIADB)])) X81 hx rfl (own_dbR _ _ _ _) (own_dbR _ _ _ _) (pc0 := 235) (pc' := 238) (same := true) rfl (hb hby at_235) rfl (decide_eq_true rfl) (by decide) (by decide) ?_
    refine XS.iconst X81.here hx rfl (hb hby at_238) ?_
    show Steps p.tables e below (T81.setTop (mkF m 239 #[vI p0, vI p1, vI p2, vI p3, vI (3 : Int32), vR b25, vI (3 : Int32), vI c0, vI c1, vI c2, .unset] [(.int (1 : Int32))])) _
    refine XS.goto X81.here hx rfl (pc0 := 239) (pc' := 243) rfl (hb hby at_239) (by decide) (by decide) ?_
    show Steps p.tables e below (T81.setTop (mkF m 243 #[vI p0, vI p1, vI p2, vI p3, vI (3 : Int32), vR b25, vI (3 : Int32), vI c0, vI c1, vI c2, .unset] [(.int (1 : Int32))])) _
    exact retN X81 hx (t := .boolean) Bd.returns (by simp) (hb hby at_243) hr
  · show Q0k3r3 Z w_VALUES k_VALUES w_H2 w_POSTGRESQL w_MARIADB w_COMPACT_STRINGS w_SIOOBE_FORMATTER pv_H2 pv_POSTGRESQL pv_MARIADB c0 c1 c2 p0 p1 p2 p3 h0 n0 _ T81.heap _
    exact ⟨rfl, N81⟩
theorem own_lens0 (p1 : Int32) : own_lens ((1 : Int32) + ((p1 &&& (2147483647 : Int32)) % (3 : Int32))) := by
  unfold own_lens
  rcases own_mod3 p1 with h | h | h <;> rw [h] <;> decide
theorem own_lens1 (p1 : Int32) : own_lens ((9 : Int32) + ((p1 &&& (2147483647 : Int32)) % (3 : Int32))) := by
  unfold own_lens
  rcases own_mod3 p1 with h | h | h <;> rw [h] <;> decide
theorem own_lens2 (p1 : Int32) : own_lens ((6 : Int32) + ((p1 &&& (2147483647 : Int32)) % (3 : Int32))) := by
  unfold own_lens
  rcases own_mod3 p1 with h | h | h <;> rw [h] <;> decide
theorem own_and3 (x : Int32) : (x &&& 3) = 0 ∨ (x &&& 3) = 1 ∨ (x &&& 3) = 2 ∨ (x &&& 3) = 3 := by
  have e1 : (x &&& (3 : Int32)).toInt = x.toInt % 2 ^ 2 := Jvm.Kit.i32_mask x 3 (k := 2) (by decide) (by decide)
  have p : (x &&& (3 : Int32)).toInt = 0 ∨ (x &&& (3 : Int32)).toInt = 1 ∨ (x &&& (3 : Int32)).toInt = 2 ∨ (x &&& (3 : Int32)).toInt = 3 := by omega
  rcases p with q | q | q | q
  · exact Or.inl (Int32.toInt_inj.mp q)
  · exact Or.inr (Or.inl (Int32.toInt_inj.mp q))
  · exact Or.inr (Or.inr (Or.inl (Int32.toInt_inj.mp q)))
  · exact Or.inr (Or.inr (Or.inr (Int32.toInt_inj.mp q)))
set_option maxRecDepth 65536 in
set_option maxHeartbeats 40000000 in
theorem comes_1 {Post : Tables → Env → Array Value → State → Outcome → State → Prop} (hpost : ∀ tb e args s v u, (limb_1_1.after args s (.returned v) u = true ∧ limb_1_2.after args s (.returned v) u = true ∧ True) → ReturnedEndW s (.returned v) u (Jvm.fieldLocs frame_1_writes args s ++ Jvm.arrayLocs frame_1_arrays args s ++ Jvm.staticLocs frame_1_statics s) 24 4288 → Post tb e args s (.returned v) u) :
    ArmFor flags0 classFile x code maxLocals ret World_1 tables_1 room_1 Calls_1 rest_1 Pre_1 Post := by
  intro l hfl _ _ p e ha hc hk s m args below hf hA hF happ hP
  obtain ⟨hcalls, hrest, hpre⟩ := hP
  obtain ⟨-, -, -, hnamed, -, -, -, hat⟩ := (Spec.applies_iff hf).mp happ
  obtain ⟨hg, hn⟩ := and_e (Cond.before_iff.mp (show (Jvm.Cond.and given_1 narrow_1).before args s = true from hpre))
  obtain ⟨gc, hg⟩ := and_e hg
  obtain ⟨ga0, hg⟩ := and_e hg
  obtain ⟨ga1, hg⟩ := and_e hg
  obtain ⟨ga2, hg⟩ := and_e hg
  have ga3 := hg
  obtain ⟨w0, w1, w2, w3, rfl⟩ : ∃ w0 w1 w2 w3 : Value, args = #[w0, w1, w2, w3] := by
    have hs : args.size = 4 := by simpa [Cond.value, given_1] using gc
    obtain ⟨L⟩ := args
    match L, hs with
    | [w0, w1, w2, w3], _ => exact ⟨w0, w1, w2, w3, rfl⟩
  have hw := fun d (hd : d ∈ tables_1) => atoms_spec (ws := Jvm.Cond.code x code maxLocals ret :: tables_1) hat d (List.mem_cons_of_mem _ hd)
  obtain ⟨hsets, hown0⟩ := atoms_of _ (rest_1_c_eq ▸ (show rest_1_c.before _ s = true from hrest))
  obtain ⟨wcs, ecs⟩ := is_v (Cond.before_iff.mp (hsets _ (List.mem_of_getElem? (i := 1) rfl)))
  have Scs : Sta s s.heap "java/lang/String" "COMPACT_STRINGS" "Z" (.int wcs) := Sta.start ecs (Or.inl (hsets _ (List.mem_of_getElem? (i := 0) rfl)))
  have ncs : ¬ (wcs = (0 : Int32)) := gotF (Cond.eq_ints ecs (Term.int_eval (0))) (not_v (Cond.before_iff.mp (hsets _ (List.mem_of_getElem? (i := 2) rfl))))
  obtain ⟨i0, ei0⟩ := is_v ga0
  obtain rfl : w0 = (.int i0) := Option.some.inj ei0
  obtain ⟨i1, ei1⟩ := is_v ga1
  obtain rfl : w1 = (.int i1) := Option.some.inj ei1
  obtain ⟨i2, ei2⟩ := is_v ga2
  obtain rfl : w2 = (.int i2) := Option.some.inj ei2
  obtain ⟨i3, ei3⟩ := is_v ga3
  obtain rfl : w3 = (.int i3) := Option.some.inj ei3
  have own_fit : Fit s := fun {y c} hc i hi => by
    obtain ⟨ha, rfl⟩ := Array.getElem?_eq_some_iff.mp hc
    have q := List.all_eq_true.mp ((Array.all_eq_true_iff_forall_mem.mp hF) _ (Array.getElem_mem ha)) i (List.mem_range.mpr hi)
    simpa [Array.getElem?_eq_getElem hi] using q
  obtain ⟨k0, hn⟩ := and_e hn
  obtain ⟨k1, hn⟩ := and_e hn
  obtain ⟨k2, hn⟩ := and_e hn
  obtain ⟨k3, hn⟩ := and_e hn
  obtain ⟨k4, hn⟩ := and_e hn
  obtain ⟨k5, hn⟩ := and_e hn
  obtain ⟨k6, hn⟩ := and_e hn
  obtain ⟨k7, hn⟩ := and_e hn
  obtain ⟨k8, hn⟩ := and_e hn
  obtain ⟨k9, hn⟩ := and_e hn
  obtain ⟨k10, hn⟩ := and_e hn
  obtain ⟨k11, hn⟩ := and_e hn
  obtain ⟨k12, hn⟩ := and_e hn
  obtain ⟨k13, hn⟩ := and_e hn
  obtain ⟨k14, hn⟩ := and_e hn
  obtain ⟨k15, hn⟩ := and_e hn
  obtain ⟨k16, hn⟩ := and_e hn
  obtain ⟨k17, hn⟩ := and_e hn
  obtain ⟨k18, hn⟩ := and_e hn
  obtain ⟨k19, hn⟩ := and_e hn
  obtain ⟨k20, hn⟩ := and_e hn
  obtain ⟨k21, hn⟩ := and_e hn
  obtain ⟨k22, hn⟩ := and_e hn
  obtain ⟨k23, hn⟩ := and_e hn
  obtain ⟨k24, hn⟩ := and_e hn
  obtain ⟨k25, hn⟩ := and_e hn
  obtain ⟨k26, hn⟩ := and_e hn
  obtain ⟨k27, hn⟩ := and_e hn
  obtain ⟨k28, hn⟩ := and_e hn
  obtain ⟨k29, hn⟩ := and_e hn
  obtain ⟨k30, hn⟩ := and_e hn
  obtain ⟨k31, hn⟩ := and_e hn
  obtain ⟨k32, hn⟩ := and_e hn
  obtain ⟨k33, hn⟩ := and_e hn
  obtain ⟨k34, hn⟩ := and_e hn
  obtain ⟨k35, hn⟩ := and_e hn
  obtain ⟨k36, hn⟩ := and_e hn
  obtain ⟨k37, hn⟩ := and_e hn
  obtain ⟨k38, hn⟩ := and_e hn
  have k39 := hn
  obtain ⟨wV, eV⟩ := exa_v k1
  have EV := Exa.start eV k1
  have SV := Sta.start eV (Or.inr ⟨(hw _ (List.mem_of_getElem? (i := 70) rfl)), (hw _ (List.mem_of_getElem? (i := 76) rfl))⟩)
  obtain ⟨cV, AV⟩ := Arr.start eV k0
  have lV := own_len eV AV (eqv_i (Term.int_eval (3)) k2)
  obtain ⟨wH2, eH2⟩ := exa_v k3
  have SH2 := Sta.start eH2 (Or.inr ⟨(hw _ (List.mem_of_getElem? (i := 70) rfl)), (hw _ (List.mem_of_getElem? (i := 84) rfl))⟩)
  have sH2 := (elem_in (own_eqR eH2 k4) eV (Term.int_eval (0)) AV.1).2
  obtain ⟨wPOSTGRESQL, ePOSTGRESQL⟩ := exa_v k5
  have SPOSTGRESQL := Sta.start ePOSTGRESQL (Or.inr ⟨(hw _ (List.mem_of_getElem? (i := 70) rfl)), (hw _ (List.mem_of_getElem? (i := 85) rfl))⟩)
  have sPOSTGRESQL := (elem_in (own_eqR ePOSTGRESQL k6) eV (Term.int_eval (1)) AV.1).2
  obtain ⟨wMARIADB, eMARIADB⟩ := exa_v k7
  have sMARIADB := (elem_in eMARIADB eV (Term.int_eval (2)) AV.1).2
  have SMARIADB := Sta.start (own_eqR eMARIADB k22) (Or.inr ⟨(hw _ (List.mem_of_getElem? (i := 70) rfl)), (hw _ (List.mem_of_getElem? (i := 128) rfl))⟩)
  have VV : Arv s s.heap wV cV.cls (.object "com/example/seshat/seshat/jpql/Database") (3 : Int32) [.ref wH2, .ref wPOSTGRESQL, .ref wMARIADB] .null := Arv.start own_fit AV lV.1 lV.2 (by decide) rfl ⟨sH2, sPOSTGRESQL, sMARIADB, trivial⟩
  obtain ⟨pH2, epH2⟩ := exa_v k8
  have FPH2 := own_fldR eH2 epH2
  have EPH2 := Exa.start epH2 k8
  have FCH2 := own_fld epH2 k9
  obtain ⟨tH2, etH2⟩ := arr_v k10
  have FTH2 := own_fldR epH2 etH2
  obtain ⟨cH2, AH2⟩ := Arr.start etH2 k10
  have lH2 := own_len etH2 AH2 (eqv_i (Term.int_eval (2)) k11)
  have VTH2 : Arv s s.heap tH2 cH2.cls .byte (2 : Int32) [.int (104 : Int32), .int (50 : Int32)] (.int 0) := Arv.start own_fit AH2 lH2.1 lH2.2 (by decide) rfl ⟨(elem_in (eqv_i (Term.int_eval (104)) k20) etH2 (Term.int_eval (0)) AH2.1).2, (elem_in (eqv_i (Term.int_eval (50)) k21) etH2 (Term.int_eval (1)) AH2.1).2, trivial⟩
  have TXH2 := own_txtK (cs := ([104, 50] : List Int32)) EPH2 FTH2 FCH2 VTH2 rfl rfl (by decide) (by decide)
  obtain ⟨pPOSTGRESQL, epPOSTGRESQL⟩ := exa_v k12
  have FPPOSTGRESQL := own_fldR ePOSTGRESQL epPOSTGRESQL
  have EPPOSTGRESQL := Exa.start epPOSTGRESQL k12
  have FCPOSTGRESQL := own_fld epPOSTGRESQL k13
  obtain ⟨tPOSTGRESQL, etPOSTGRESQL⟩ := arr_v k14
  have FTPOSTGRESQL := own_fldR epPOSTGRESQL etPOSTGRESQL
  obtain ⟨cPOSTGRESQL, APOSTGRESQL⟩ := Arr.start etPOSTGRESQL k14
  have lPOSTGRESQL := own_len etPOSTGRESQL APOSTGRESQL (eqv_i (Term.int_eval (10)) k15)
  have VTPOSTGRESQL : Arv s s.heap tPOSTGRESQL cPOSTGRESQL.cls .byte (10 : Int32) [.int (112 : Int32), .int (111 : Int32), .int (115 : Int32), .int (116 : Int32), .int (103 : Int32), .int (114 : Int32), .int (101 : Int32), .int (115 : Int32), .int (113 : Int32), .int (108 : Int32)] (.int 0) := Arv.start own_fit APOSTGRESQL lPOSTGRESQL.1 lPOSTGRESQL.2 (by decide) rfl ⟨(elem_in (eqv_i (Term.int_eval (112)) k23) etPOSTGRESQL (Term.int_eval (0)) APOSTGRESQL.1).2, (elem_in (eqv_i (Term.int_eval (111)) k24) etPOSTGRESQL (Term.int_eval (1)) APOSTGRESQL.1).2, (elem_in (eqv_i (Term.int_eval (115)) k25) etPOSTGRESQL (Term.int_eval (2)) APOSTGRESQL.1).2, (elem_in (eqv_i (Term.int_eval (116)) k26) etPOSTGRESQL (Term.int_eval (3)) APOSTGRESQL.1).2, (elem_in (eqv_i (Term.int_eval (103)) k27) etPOSTGRESQL (Term.int_eval (4)) APOSTGRESQL.1).2, (elem_in (eqv_i (Term.int_eval (114)) k28) etPOSTGRESQL (Term.int_eval (5)) APOSTGRESQL.1).2, (elem_in (eqv_i (Term.int_eval (101)) k29) etPOSTGRESQL (Term.int_eval (6)) APOSTGRESQL.1).2, (elem_in (eqv_i (Term.int_eval (115)) k30) etPOSTGRESQL (Term.int_eval (7)) APOSTGRESQL.1).2, (elem_in (eqv_i (Term.int_eval (113)) k31) etPOSTGRESQL (Term.int_eval (8)) APOSTGRESQL.1).2, (elem_in (eqv_i (Term.int_eval (108)) k32) etPOSTGRESQL (Term.int_eval (9)) APOSTGRESQL.1).2, trivial⟩
  have TXPOSTGRESQL := own_txtK (cs := ([112, 111, 115, 116, 103, 114, 101, 115, 113, 108] : List Int32)) EPPOSTGRESQL FTPOSTGRESQL FCPOSTGRESQL VTPOSTGRESQL rfl rfl (by decide) (by decide)
  obtain ⟨pMARIADB, epMARIADB⟩ := exa_v k16
  have FPMARIADB := own_fldR eMARIADB epMARIADB
  have EPMARIADB := Exa.start epMARIADB k16
  have FCMARIADB := own_fld epMARIADB k17
  obtain ⟨tMARIADB, etMARIADB⟩ := arr_v k18
  have FTMARIADB := own_fldR epMARIADB etMARIADB
  obtain ⟨cMARIADB, AMARIADB⟩ := Arr.start etMARIADB k18
  have lMARIADB := own_len etMARIADB AMARIADB (eqv_i (Term.int_eval (7)) k19)
  have VTMARIADB : Arv s s.heap tMARIADB cMARIADB.cls .byte (7 : Int32) [.int (109 : Int32), .int (97 : Int32), .int (114 : Int32), .int (105 : Int32), .int (97 : Int32), .int (100 : Int32), .int (98 : Int32)] (.int 0) := Arv.start own_fit AMARIADB lMARIADB.1 lMARIADB.2 (by decide) rfl ⟨(elem_in (eqv_i (Term.int_eval (109)) k33) etMARIADB (Term.int_eval (0)) AMARIADB.1).2, (elem_in (eqv_i (Term.int_eval (97)) k34) etMARIADB (Term.int_eval (1)) AMARIADB.1).2, (elem_in (eqv_i (Term.int_eval (114)) k35) etMARIADB (Term.int_eval (2)) AMARIADB.1).2, (elem_in (eqv_i (Term.int_eval (105)) k36) etMARIADB (Term.int_eval (3)) AMARIADB.1).2, (elem_in (eqv_i (Term.int_eval (97)) k37) etMARIADB (Term.int_eval (4)) AMARIADB.1).2, (elem_in (eqv_i (Term.int_eval (100)) k38) etMARIADB (Term.int_eval (5)) AMARIADB.1).2, (elem_in (eqv_i (Term.int_eval (98)) k39) etMARIADB (Term.int_eval (6)) AMARIADB.1).2, trivial⟩
  have TXMARIADB := own_txtK (cs := ([109, 97, 114, 105, 97, 100, 98] : List Int32)) EPMARIADB FTMARIADB FCMARIADB VTMARIADB rfl rfl (by decide) (by decide)
  obtain ⟨wF, eF, rF⟩ := own_isref (Cond.before_iff.mp (hsets _ (List.mem_of_getElem? (i := 8) rfl)))
  have SF := Sta.start eF (Or.inl (hsets _ (List.mem_of_getElem? (i := 7) rfl)))
  have hCHs : CHv s consts_1 s.vm s.heap := CHv.start (own_EW hw) hcalls.1 (hsets _ (List.mem_of_getElem? (i := 2) rfl)) (hw _ (List.mem_of_getElem? (i := 4) rfl)) (hw _ (List.mem_of_getElem? (i := 3) rfl))
  rcases own_mod4 i0 with hk0 | hk0 | hk0 | hk0
  · obtain ⟨n, o, h1, h2, h3, _, L, rfl, ⟨rfl, N⟩, -, hq⟩ := rm0k0 l s _ hw tables_1 wV cV.cls wH2 wPOSTGRESQL wMARIADB wcs wF pH2 pPOSTGRESQL pMARIADB ((i2 &&& (2147483647 : Int32)) % (4 : Int32)) ((i3 &&& (255 : Int32)).toUInt32.toUInt16.toUInt32.toInt32) i0 i1 i2 i3 s.heap s.heap.size (Old.start s) SV EV VV Scs ncs SF rF FPH2 FPPOSTGRESQL FPMARIADB TXH2 TXPOSTGRESQL TXMARIADB SH2 SPOSTGRESQL SMARIADB (own_bm _) hk0 rfl rfl (own_lens0 i1) p e ha hc hk s m _ below hf ((Spec.applies_iff_loose hf).mp happ).1 ⟨rfl, State.Warmed39.refl s, rfl, hCHs⟩ trivial
    refine ⟨n, _, h1, h2, h3, hpost _ _ _ _ _ _ ⟨Cond.after_iff.mpr rfl, Cond.after_iff.mpr (eq_i res_at (Term.int_eval (1)) rfl), trivial⟩ ⟨hq.1, hq.2.1, hq.2.2.1, (hq.2.2.2.sift fun y hy => Or.inr (N y hy)).mono (by decide) (by decide)⟩⟩
  · obtain ⟨n, o, h1, h2, h3, _, L, rfl, ⟨rfl, N⟩, -, hq⟩ := rm0k1 l s _ hw tables_1 wV cV.cls wH2 wPOSTGRESQL wMARIADB wcs wF pH2 pPOSTGRESQL pMARIADB ((i2 &&& (2147483647 : Int32)) % (12 : Int32)) ((i3 &&& (255 : Int32)).toUInt32.toUInt16.toUInt32.toInt32) i0 i1 i2 i3 s.heap s.heap.size (Old.start s) SV EV VV Scs ncs SF rF FPH2 FPPOSTGRESQL FPMARIADB TXH2 TXPOSTGRESQL TXMARIADB SH2 SPOSTGRESQL SMARIADB (own_bm _) hk0 rfl rfl (own_lens1 i1) p e ha hc hk s m _ below hf ((Spec.applies_iff_loose hf).mp happ).1 ⟨rfl, State.Warmed39.refl s, rfl, hCHs⟩ trivial
    refine ⟨n, _, h1, h2, h3, hpost _ _ _ _ _ _ ⟨Cond.after_iff.mpr rfl, Cond.after_iff.mpr (eq_i res_at (Term.int_eval (1)) rfl), trivial⟩ ⟨hq.1, hq.2.1, hq.2.2.1, (hq.2.2.2.sift fun y hy => Or.inr (N y hy)).mono (by decide) (by decide)⟩⟩
  · obtain ⟨n, o, h1, h2, h3, _, L, rfl, ⟨rfl, N⟩, -, hq⟩ := rm0k2 l s _ hw tables_1 wV cV.cls wH2 wPOSTGRESQL wMARIADB wcs wF pH2 pPOSTGRESQL pMARIADB ((i2 &&& (2147483647 : Int32)) % (9 : Int32)) ((i3 &&& (255 : Int32)).toUInt32.toUInt16.toUInt32.toInt32) i0 i1 i2 i3 s.heap s.heap.size (Old.start s) SV EV VV Scs ncs SF rF FPH2 FPPOSTGRESQL FPMARIADB TXH2 TXPOSTGRESQL TXMARIADB SH2 SPOSTGRESQL SMARIADB (own_bm _) hk0 rfl rfl (own_lens2 i1) p e ha hc hk s m _ below hf ((Spec.applies_iff_loose hf).mp happ).1 ⟨rfl, State.Warmed39.refl s, rfl, hCHs⟩ trivial
    refine ⟨n, _, h1, h2, h3, hpost _ _ _ _ _ _ ⟨Cond.after_iff.mpr rfl, Cond.after_iff.mpr (eq_i res_at (Term.int_eval (1)) rfl), trivial⟩ ⟨hq.1, hq.2.1, hq.2.2.1, (hq.2.2.2.sift fun y hy => Or.inr (N y hy)).mono (by decide) (by decide)⟩⟩
  · rcases own_and3 ((i1.toUInt32 >>> ((1 : Int32) &&& 31).toUInt32).toInt32) with hk1 | hk1 | hk1 | hk1
    · obtain ⟨n, o, h1, h2, h3, _, L, rfl, ⟨rfl, N⟩, -, hq⟩ := rm0k3r0 l s _ hw tables_1 wV cV.cls wH2 wPOSTGRESQL wMARIADB wcs wF pH2 pPOSTGRESQL pMARIADB ((i2 &&& (255 : Int32)).toUInt32.toUInt16.toUInt32.toInt32) ((((i2.toUInt32 >>> ((8 : Int32) &&& 31).toUInt32).toInt32) &&& (255 : Int32)).toUInt32.toUInt16.toUInt32.toInt32) ((((i2.toUInt32 >>> ((16 : Int32) &&& 31).toUInt32).toInt32) &&& (255 : Int32)).toUInt32.toUInt16.toUInt32.toInt32) i0 i1 i2 i3 s.heap s.heap.size (Old.start s) SV EV VV Scs ncs SF rF FPH2 FPPOSTGRESQL FPMARIADB TXH2 TXPOSTGRESQL TXMARIADB SH2 SPOSTGRESQL SMARIADB (own_bm _) (own_bm _) (own_bm _) hk0 hk1 rfl rfl rfl p e ha hc hk s m _ below hf ((Spec.applies_iff_loose hf).mp happ).1 ⟨rfl, State.Warmed39.refl s, rfl, hCHs⟩ trivial
      refine ⟨n, _, h1, h2, h3, hpost _ _ _ _ _ _ ⟨Cond.after_iff.mpr rfl, Cond.after_iff.mpr (eq_i res_at (Term.int_eval (1)) rfl), trivial⟩ ⟨hq.1, hq.2.1, hq.2.2.1, (hq.2.2.2.sift fun y hy => Or.inr (N y hy)).mono (by decide) (by decide)⟩⟩
    · obtain ⟨n, o, h1, h2, h3, _, L, rfl, ⟨rfl, N⟩, -, hq⟩ := rm0k3r1 l s _ hw tables_1 wV cV.cls wH2 wPOSTGRESQL wMARIADB wcs wF pH2 pPOSTGRESQL pMARIADB ((i2 &&& (255 : Int32)).toUInt32.toUInt16.toUInt32.toInt32) ((((i2.toUInt32 >>> ((8 : Int32) &&& 31).toUInt32).toInt32) &&& (255 : Int32)).toUInt32.toUInt16.toUInt32.toInt32) ((((i2.toUInt32 >>> ((16 : Int32) &&& 31).toUInt32).toInt32) &&& (255 : Int32)).toUInt32.toUInt16.toUInt32.toInt32) i0 i1 i2 i3 s.heap s.heap.size (Old.start s) SV EV VV Scs ncs SF rF FPH2 FPPOSTGRESQL FPMARIADB TXH2 TXPOSTGRESQL TXMARIADB SH2 SPOSTGRESQL SMARIADB (own_bm _) (own_bm _) (own_bm _) hk0 hk1 rfl rfl rfl p e ha hc hk s m _ below hf ((Spec.applies_iff_loose hf).mp happ).1 ⟨rfl, State.Warmed39.refl s, rfl, hCHs⟩ trivial
      refine ⟨n, _, h1, h2, h3, hpost _ _ _ _ _ _ ⟨Cond.after_iff.mpr rfl, Cond.after_iff.mpr (eq_i res_at (Term.int_eval (1)) rfl), trivial⟩ ⟨hq.1, hq.2.1, hq.2.2.1, (hq.2.2.2.sift fun y hy => Or.inr (N y hy)).mono (by decide) (by decide)⟩⟩
    · obtain ⟨n, o, h1, h2, h3, _, L, rfl, ⟨rfl, N⟩, -, hq⟩ := rm0k3r2 l s _ hw tables_1 wV cV.cls wH2 wPOSTGRESQL wMARIADB wcs wF pH2 pPOSTGRESQL pMARIADB ((i2 &&& (255 : Int32)).toUInt32.toUInt16.toUInt32.toInt32) ((((i2.toUInt32 >>> ((8 : Int32) &&& 31).toUInt32).toInt32) &&& (255 : Int32)).toUInt32.toUInt16.toUInt32.toInt32) ((((i2.toUInt32 >>> ((16 : Int32) &&& 31).toUInt32).toInt32) &&& (255 : Int32)).toUInt32.toUInt16.toUInt32.toInt32) i0 i1 i2 i3 s.heap s.heap.size (Old.start s) SV EV VV Scs ncs SF rF FPH2 FPPOSTGRESQL FPMARIADB TXH2 TXPOSTGRESQL TXMARIADB SH2 SPOSTGRESQL SMARIADB (own_bm _) (own_bm _) (own_bm _) hk0 hk1 rfl rfl rfl p e ha hc hk s m _ below hf ((Spec.applies_iff_loose hf).mp happ).1 ⟨rfl, State.Warmed39.refl s, rfl, hCHs⟩ trivial
      refine ⟨n, _, h1, h2, h3, hpost _ _ _ _ _ _ ⟨Cond.after_iff.mpr rfl, Cond.after_iff.mpr (eq_i res_at (Term.int_eval (1)) rfl), trivial⟩ ⟨hq.1, hq.2.1, hq.2.2.1, (hq.2.2.2.sift fun y hy => Or.inr (N y hy)).mono (by decide) (by decide)⟩⟩
    · obtain ⟨n, o, h1, h2, h3, _, L, rfl, ⟨rfl, N⟩, -, hq⟩ := rm0k3r3 l s _ hw tables_1 wV cV.cls wH2 wPOSTGRESQL wMARIADB wcs wF pH2 pPOSTGRESQL pMARIADB ((i2 &&& (255 : Int32)).toUInt32.toUInt16.toUInt32.toInt32) ((((i2.toUInt32 >>> ((8 : Int32) &&& 31).toUInt32).toInt32) &&& (255 : Int32)).toUInt32.toUInt16.toUInt32.toInt32) ((((i2.toUInt32 >>> ((16 : Int32) &&& 31).toUInt32).toInt32) &&& (255 : Int32)).toUInt32.toUInt16.toUInt32.toInt32) i0 i1 i2 i3 s.heap s.heap.size (Old.start s) SV EV VV Scs ncs SF rF FPH2 FPPOSTGRESQL FPMARIADB TXH2 TXPOSTGRESQL TXMARIADB SH2 SPOSTGRESQL SMARIADB (own_bm _) (own_bm _) (own_bm _) hk0 hk1 rfl rfl rfl p e ha hc hk s m _ below hf ((Spec.applies_iff_loose hf).mp happ).1 ⟨rfl, State.Warmed39.refl s, rfl, hCHs⟩ trivial
      refine ⟨n, _, h1, h2, h3, hpost _ _ _ _ _ _ ⟨Cond.after_iff.mpr rfl, Cond.after_iff.mpr (eq_i res_at (Term.int_eval (1)) rfl), trivial⟩ ⟨hq.1, hq.2.1, hq.2.2.1, (hq.2.2.2.sift fun y hy => Or.inr (N y hy)).mono (by decide) (by decide)⟩⟩
theorem main_1_1 : Claimed_1_1 := comes_1 fun _ _ _ _ _ _ h hF => ⟨h.1, hF⟩
theorem main_1_2 : Claimed_1_2 := comes_1 fun _ _ _ _ _ _ h hF => ⟨h.2.1, hF⟩
end Jvm.Pilot.@@N@@
namespace Jvm.Pilot.@@N@@
open Jvm Jvm.ClassFile Sem Op Lib Jvm.Free Jvm.Stand Jvm.Pilot.@@N@@.Jvm.D
/-! MADE BY PROGRAM (witnessworld.py) out of the Statement's table words and the real class files: 23 classes; the members and pool entries that the words name. The judged class is class 1, her method 1. -/
namespace start1
open Jvm.ClassFile
def u (s : String) : CpInfo := .utf8 (stringToUtf16 s)
/-- a pool by its gaps: so many unusable entries, then the entry; so many at the end -/
def gap : Nat → List CpInfo → List CpInfo
  | 0, r => r
  | n + 1, r => .unusable :: gap n r
def poolList (es : List (Nat × CpInfo)) (last : Nat) : List CpInfo := es.foldr (fun e r => gap e.1 (e.2 :: r)) (gap last [])
def pool (es : List (Nat × CpInfo)) (last : Nat) : Array CpInfo := ⟨poolList es last⟩
def fileOf (pool : Array CpInfo) (this : Nat) (attrs : Array Attribute := #[]) (ms : Array MethodInfo := #[]) (fl : Nat := 33) (sup : Nat := 0) (ifs : Array Nat := #[]) (fds : Array FieldInfo := #[]) : ClassFile where
  minorVersion := 0
  majorVersion := 65
  constantPool := pool
  accessFlags := fl
  thisClass := this
  superClass := sup
  interfaces := ifs
  fields := fds
  methods := ms
  attributes := attrs
def plain (name : String) (sup : Option ClassId) : Class where
  name := name
  kind := .ordinary
  loader := none
  accessFlags := 33
  super := sup
  interfaces := #[]
  cf := none
  fields := #[]
  methods := #[]
  instanceTypes := #[]
  staticTypes := #[]
  resolved := #[]
  callSites := []
  init := .initialized
  statics := none
  mirror := none

def pool0 : Array CpInfo := pool [(5, u "<init>"), (0, u "()V"), (1, .class_ 10), (1, u "java/lang/Object"), (85, u "clone"), (0, u "()Ljava/lang/Object;")] 26

def k0c0 : Code := { maxStack := 0, maxLocals := 1, code := object_method_1_code, exceptionTable := #[], attributes := #[] }
def k0m0 : Method := { name := "<init>", desc := "()V", sig := { parameters := [], returnType := none }, accessFlags := 1, code := some k0c0 }
def k0m1 : Method := { name := "clone", desc := "()Ljava/lang/Object;", sig := { parameters := [], returnType := some (.object "java/lang/Object") }, accessFlags := 260, code := none }
/-- java/lang/Object -/
def k0 : Class := { plain "java/lang/Object" none with
  accessFlags := 33
  interfaces := #[]
  cf := some (fileOf pool0 8 #[] #[{ accessFlags := 1, nameIndex := 5, descriptorIndex := 6, attributes := #[] }, { accessFlags := 260, nameIndex := 96, descriptorIndex := 97, attributes := #[] }] 33 0 #[] #[])
  fields := #[]
  methods := #[k0m0, k0m1]
  instanceTypes := #[]
  staticTypes := #[]
  resolved := Array.replicate 124 none
  statics := none }

def pool1 : Array CpInfo := pool [(2, .class_ 4), (1, u "java/lang/Object"), (0, u "<init>"), (0, u "()V"), (0, .integer 2147483647), (0, .class_ 9), (0, u "java/lang/String"), (0, .methodref 8 11), (0, .nameAndType 5 12), (0, u "([C)V"), (0, .methodref 8 14), (0, .nameAndType 15 16), (0, u "valueOf"), (0, u "(C)Ljava/lang/String;"), (0, .string 18), (0, u "h2"), (0, .string 20), (0, u "postgresql"), (0, .string 22), (0, u "mariadb"), (0, .methodref 8 24), (0, .nameAndType 25 26), (0, u "length"), (0, u "()I"), (0, .methodref 28 29), (0, .class_ 30), (0, .nameAndType 31 32), (0, u "com/example/seshat/seshat/jpql/DatabaseNamedPinLaw"), (0, u "word"), (0, u "(Ljava/lang/String;IIC)Ljava/lang/String;"), (0, .methodref 34 35), (0, .class_ 36), (0, .nameAndType 37 38), (0, u "com/example/seshat/seshat/jpql/Database"), (0, u "named"), (0, u "(Ljava/lang/String;)Lcom/example/seshat/seshat/jpql/Database;"), (0, .methodref 28 40), (0, .nameAndType 41 38), (0, u "expected"), (0, .methodref 8 43), (0, .nameAndType 44 45), (0, u "equals"), (0, u "(Ljava/lang/Object;)Z"), (0, .fieldref 34 47), (0, .nameAndType 48 49), (0, u "H2"), (0, u "Lcom/example/seshat/seshat/jpql/Database;"), (0, .fieldref 34 51), (0, .nameAndType 52 49), (0, u "POSTGRESQL"), (0, .fieldref 34 54), (0, .nameAndType 55 49), (0, u "MARIADB"), (0, .methodref 8 57), (0, .nameAndType 58 59), (0, u "charAt"), (0, u "(I)C"), (0, .methodref 28 61), (0, .nameAndType 62 63), (0, u "at"), (0, u "(Ljava/lang/String;IIC)C"), (2, u "law"), (0, u "(IIII)Z")] 3

def k1m0 : Method := { name := "<init>", desc := "()V", sig := { parameters := [], returnType := none }, accessFlags := 2, code := none }
def k1c1 : Code := { maxStack := 6, maxLocals := 11, code := code, exceptionTable := #[], attributes := #[] }
def k1m1 : Method := { name := "law", desc := "(IIII)Z", sig := { parameters := [.int, .int, .int, .int], returnType := some .boolean }, accessFlags := 9, code := some k1c1 }
def k1c2 : Code := { maxStack := 2, maxLocals := 1, code := method_3_code, exceptionTable := #[], attributes := #[] }
def k1m2 : Method := { name := "expected", desc := "(Ljava/lang/String;)Lcom/example/seshat/seshat/jpql/Database;", sig := { parameters := [(.object "java/lang/String")], returnType := some (.object "com/example/seshat/seshat/jpql/Database") }, accessFlags := 10, code := some k1c2 }
def k1c3 : Code := { maxStack := 2, maxLocals := 4, code := method_4_code, exceptionTable := #[], attributes := #[] }
def k1m3 : Method := { name := "at", desc := "(Ljava/lang/String;IIC)C", sig := { parameters := [(.object "java/lang/String"), .int, .int, .char], returnType := some .char }, accessFlags := 10, code := some k1c3 }
def k1c4 : Code := { maxStack := 6, maxLocals := 15, code := method_5_code, exceptionTable := #[], attributes := #[] }
def k1m4 : Method := { name := "word", desc := "(Ljava/lang/String;IIC)Ljava/lang/String;", sig := { parameters := [(.object "java/lang/String"), .int, .int, .char], returnType := some (.object "java/lang/String") }, accessFlags := 10, code := some k1c4 }
/-- com/example/seshat/seshat/jpql/DatabaseNamedPinLaw -/
def k1 : Class := { plain "com/example/seshat/seshat/jpql/DatabaseNamedPinLaw" (some 0) with
  accessFlags := 49
  interfaces := #[]
  cf := some (fileOf pool1 28 #[] #[{ accessFlags := 2, nameIndex := 5, descriptorIndex := 6, attributes := #[] }, { accessFlags := 9, nameIndex := 66, descriptorIndex := 67, attributes := #[] }, { accessFlags := 10, nameIndex := 41, descriptorIndex := 38, attributes := #[] }, { accessFlags := 10, nameIndex := 62, descriptorIndex := 63, attributes := #[] }, { accessFlags := 10, nameIndex := 31, descriptorIndex := 32, attributes := #[] }] 49 2 #[] #[])
  fields := #[]
  methods := #[k1m0, k1m1, k1m2, k1m3, k1m4]
  instanceTypes := #[]
  staticTypes := #[]
  resolved := Array.replicate 71 none
  statics := none }

def pool2 : Array CpInfo := pool [(1, .class_ 2), (0, u "java/io/Serializable"), (0, .class_ 4), (0, u "java/lang/Object")] 2

/-- java/io/Serializable -/
def k2 : Class := { plain "java/io/Serializable" (some 0) with
  accessFlags := 1537
  interfaces := #[]
  cf := some (fileOf pool2 1 #[] #[] 1537 3 #[] #[])
  fields := #[]
  methods := #[]
  instanceTypes := #[]
  staticTypes := #[]
  resolved := Array.replicate 7 none
  statics := none }

def pool3 : Array CpInfo := pool [(1, .class_ 2), (0, u "java/lang/Comparable"), (0, .class_ 4), (0, u "java/lang/Object")] 7

/-- java/lang/Comparable -/
def k3 : Class := { plain "java/lang/Comparable" (some 0) with
  accessFlags := 1537
  interfaces := #[]
  cf := some (fileOf pool3 1 #[] #[] 1537 3 #[] #[])
  fields := #[]
  methods := #[]
  instanceTypes := #[]
  staticTypes := #[]
  resolved := Array.replicate 12 none
  statics := none }

def pool4 : Array CpInfo := pool [(2, .class_ 4), (1, u "java/lang/CharSequence"), (42, .class_ 48), (0, u "java/lang/CharSequence$1CodePointIterator"), (10, .class_ 60), (0, u "java/lang/CharSequence$1CharIterator"), (5, .class_ 67), (0, u "java/lang/Object")] 63

/-- java/lang/CharSequence -/
def k4 : Class := { plain "java/lang/CharSequence" (some 0) with
  accessFlags := 1537
  interfaces := #[]
  cf := some (fileOf pool4 2 #[.nestMembers #[47, 59]] #[] 1537 66 #[] #[])
  fields := #[]
  methods := #[]
  instanceTypes := #[]
  staticTypes := #[]
  resolved := Array.replicate 131 none
  statics := none }

def pool5 : Array CpInfo := pool [(1, .class_ 2), (0, u "java/lang/constant/Constable"), (0, .class_ 4), (0, u "java/lang/Object")] 6

/-- java/lang/constant/Constable -/
def k5 : Class := { plain "java/lang/constant/Constable" (some 0) with
  accessFlags := 1537
  interfaces := #[]
  cf := some (fileOf pool5 1 #[] #[] 1537 3 #[] #[])
  fields := #[]
  methods := #[]
  instanceTypes := #[]
  staticTypes := #[]
  resolved := Array.replicate 11 none
  statics := none }

def pool6 : Array CpInfo := pool [(1, .class_ 2), (0, u "java/lang/constant/ConstantDesc"), (0, .class_ 4), (0, u "java/lang/Object")] 32

/-- java/lang/constant/ConstantDesc -/
def k6 : Class := { plain "java/lang/constant/ConstantDesc" (some 0) with
  accessFlags := 1537
  interfaces := #[]
  cf := some (fileOf pool6 1 #[] #[] 1537 3 #[] #[])
  fields := #[]
  methods := #[]
  instanceTypes := #[]
  staticTypes := #[]
  resolved := Array.replicate 37 none
  statics := none }

def pool7 : Array CpInfo := pool [(1, .methodref 2 3), (0, .class_ 4), (0, .nameAndType 5 6), (0, u "java/lang/Object"), (0, u "<init>"), (0, u "()V"), (0, .string 8), (0, u ""), (0, .fieldref 10 11), (0, .class_ 12), (0, .nameAndType 13 14), (0, u "java/lang/String"), (0, u "value"), (0, u "[B"), (0, .fieldref 10 16), (0, .nameAndType 17 18), (0, u "coder"), (0, u "B"), (2, u "hash"), (0, u "I"), (2, u "hashIsZero"), (0, u "Z"), (0, .methodref 10 28), (0, .nameAndType 5 29), (0, u "([CIILjava/lang/Void;)V"), (8, .fieldref 10 39), (0, .nameAndType 40 26), (0, u "COMPACT_STRINGS"), (1, .class_ 44), (1, u "java/lang/StringUTF16"), (0, u "compress"), (1, .methodref 42 48), (0, .nameAndType 49 50), (0, u "coderFromArrayLen"), (0, u "([BI)B"), (2, u "toBytes"), (53, .class_ 109), (1, u "java/lang/StringLatin1"), (32, u "()Z"), (34, .methodref 42 178), (0, .nameAndType 45 179), (0, u "([CII)[B"), (29, .methodref 10 210), (0, .nameAndType 5 211), (0, u "([BB)V"), (122, u "()I"), (0, .methodref 10 336), (0, .nameAndType 17 337), (0, u "()B"), (25, u "([BI)C"), (5, u "(C)Z"), (21, u "(II)V"), (35, u "(I)C"), (64, .methodref 10 493), (0, .nameAndType 494 142), (0, u "isLatin1"), (0, .methodref 107 496), (0, .nameAndType 497 363), (0, u "charAt"), (3, u "checkIndex"), (5, u "length"), (33, .methodref 107 542), (0, .nameAndType 543 544), (0, u "equals"), (0, u "([B[B)Z"), (28, u "(Ljava/lang/Object;)Z"), (1, .class_ 576), (0, u "java/lang/CharSequence"), (22, u "CASE_INSENSITIVE_ORDER"), (0, u "Ljava/util/Comparator;"), (181, u "valueOf"), (0, u "(C)Ljava/lang/String;"), (226, u "([C)V"), (4, .methodref 107 1016), (0, .nameAndType 1017 369), (0, u "canEncode"), (0, .methodref 107 1019), (0, .nameAndType 53 1020), (0, u "(C)[B"), (32, .fieldref 1054 1055), (0, .class_ 1056), (0, .nameAndType 1057 1058), (0, u "jdk/internal/util/Preconditions"), (0, u "SIOOBE_FORMATTER"), (0, u "Ljava/util/function/BiFunction;"), (0, .methodref 1054 1060), (0, .nameAndType 501 1061), (0, u "(IILjava/util/function/BiFunction;)I"), (39, u "serialPersistentFields"), (0, u "[Ljava/io/ObjectStreamField;"), (0, .class_ 1104), (0, u "java/lang/String$CaseInsensitiveComparator"), (1, .class_ 1107), (0, u "java/io/Serializable"), (0, .class_ 1109), (0, u "java/lang/Comparable"), (0, .class_ 1111), (0, u "java/lang/constant/Constable"), (0, .class_ 1113), (0, u "java/lang/constant/ConstantDesc"), (2, u "serialVersionUID"), (0, u "J"), (3, u "REPL"), (0, u "C"), (2, u "LATIN1"), (1, u "UTF16")] 323

def k7m0 : Method := { name := "<init>", desc := "()V", sig := { parameters := [], returnType := none }, accessFlags := 1, code := none }
def k7c1 : Code := { maxStack := 5, maxLocals := 2, code := jdk_42_method_3_code, exceptionTable := #[], attributes := #[] }
def k7m1 : Method := { name := "<init>", desc := "([C)V", sig := { parameters := [(.array .char)], returnType := none }, accessFlags := 1, code := some k7c1 }
def k7c2 : Code := { maxStack := 2, maxLocals := 1, code := jdk_42_method_54_code, exceptionTable := #[], attributes := #[] }
def k7m2 : Method := { name := "length", desc := "()I", sig := { parameters := [], returnType := some .int }, accessFlags := 1, code := some k7c2 }
def k7c3 : Code := { maxStack := 2, maxLocals := 2, code := jdk_42_method_56_code, exceptionTable := #[], attributes := #[] }
def k7m3 : Method := { name := "charAt", desc := "(I)C", sig := { parameters := [.int], returnType := some .char }, accessFlags := 1, code := some k7c3 }
def k7c4 : Code := { maxStack := 2, maxLocals := 3, code := jdk_42_method_66_code, exceptionTable := #[], attributes := #[] }
def k7m4 : Method := { name := "equals", desc := "(Ljava/lang/Object;)Z", sig := { parameters := [(.object "java/lang/Object")], returnType := some .boolean }, accessFlags := 1, code := some k7c4 }
def k7c5 : Code := { maxStack := 4, maxLocals := 1, code := jdk_42_method_139_code, exceptionTable := #[], attributes := #[] }
def k7m5 : Method := { name := "valueOf", desc := "(C)Ljava/lang/String;", sig := { parameters := [.char], returnType := some (.object "java/lang/String") }, accessFlags := 9, code := some k7c5 }
def k7c6 : Code := { maxStack := 4, maxLocals := 6, code := jdk_42_method_149_code, exceptionTable := #[], attributes := #[] }
def k7m6 : Method := { name := "<init>", desc := "([CIILjava/lang/Void;)V", sig := { parameters := [(.array .char), .int, .int, (.object "java/lang/Void")], returnType := none }, accessFlags := 2, code := some k7c6 }
def k7c7 : Code := { maxStack := 2, maxLocals := 3, code := jdk_42_method_151_code, exceptionTable := #[], attributes := #[] }
def k7m7 : Method := { name := "<init>", desc := "([BB)V", sig := { parameters := [(.array .byte), .byte], returnType := none }, accessFlags := 0, code := some k7c7 }
def k7c8 : Code := { maxStack := 1, maxLocals := 1, code := jdk_42_method_152_code, exceptionTable := #[], attributes := #[] }
def k7m8 : Method := { name := "coder", desc := "()B", sig := { parameters := [], returnType := some .byte }, accessFlags := 0, code := some k7c8 }
def k7c9 : Code := { maxStack := 1, maxLocals := 1, code := jdk_42_method_154_code, exceptionTable := #[], attributes := #[] }
def k7m9 : Method := { name := "isLatin1", desc := "()Z", sig := { parameters := [], returnType := some .boolean }, accessFlags := 0, code := some k7c9 }
def k7c10 : Code := { maxStack := 3, maxLocals := 2, code := jdk_42_method_155_code, exceptionTable := #[], attributes := #[] }
def k7m10 : Method := { name := "checkIndex", desc := "(II)V", sig := { parameters := [.int, .int], returnType := none }, accessFlags := 8, code := some k7c10 }
/-- java/lang/String -/
def k7 : Class := { plain "java/lang/String" (some 0) with
  accessFlags := 49
  interfaces := #[2, 3, 4, 5, 6]
  cf := some (fileOf pool7 10 #[.nestMembers #[1103]] #[{ accessFlags := 1, nameIndex := 5, descriptorIndex := 6, attributes := #[] }, { accessFlags := 1, nameIndex := 5, descriptorIndex := 1010, attributes := #[] }, { accessFlags := 1, nameIndex := 507, descriptorIndex := 334, attributes := #[] }, { accessFlags := 1, nameIndex := 497, descriptorIndex := 427, attributes := #[] }, { accessFlags := 1, nameIndex := 543, descriptorIndex := 573, attributes := #[] }, { accessFlags := 9, nameIndex := 782, descriptorIndex := 783, attributes := #[] }, { accessFlags := 2, nameIndex := 5, descriptorIndex := 29, attributes := #[] }, { accessFlags := 0, nameIndex := 5, descriptorIndex := 211, attributes := #[] }, { accessFlags := 0, nameIndex := 17, descriptorIndex := 337, attributes := #[] }, { accessFlags := 0, nameIndex := 494, descriptorIndex := 142, attributes := #[] }, { accessFlags := 8, nameIndex := 501, descriptorIndex := 391, attributes := #[] }] 49 2 #[1106, 1108, 575, 1110, 1112] #[{ accessFlags := 18, nameIndex := 13, descriptorIndex := 14, attributes := #[] }, { accessFlags := 18, nameIndex := 17, descriptorIndex := 18, attributes := #[] }, { accessFlags := 2, nameIndex := 21, descriptorIndex := 22, attributes := #[] }, { accessFlags := 2, nameIndex := 25, descriptorIndex := 26, attributes := #[] }, { accessFlags := 26, nameIndex := 1116, descriptorIndex := 1117, attributes := #[] }, { accessFlags := 24, nameIndex := 40, descriptorIndex := 26, attributes := #[] }, { accessFlags := 26, nameIndex := 1101, descriptorIndex := 1102, attributes := #[] }, { accessFlags := 26, nameIndex := 1121, descriptorIndex := 1122, attributes := #[] }, { accessFlags := 25, nameIndex := 599, descriptorIndex := 600, attributes := #[] }, { accessFlags := 24, nameIndex := 1125, descriptorIndex := 18, attributes := #[] }, { accessFlags := 24, nameIndex := 1127, descriptorIndex := 18, attributes := #[] }])
  fields := #[{ name := "value", type := (.array .byte), accessFlags := 18, slot := 0, constantValue := 0 }, { name := "coder", type := .byte, accessFlags := 18, slot := 1, constantValue := 0 }, { name := "hash", type := .int, accessFlags := 2, slot := 2, constantValue := 0 }, { name := "hashIsZero", type := .boolean, accessFlags := 2, slot := 3, constantValue := 0 }, { name := "serialVersionUID", type := .long, accessFlags := 26, slot := 0, constantValue := 0 }, { name := "COMPACT_STRINGS", type := .boolean, accessFlags := 24, slot := 1, constantValue := 0 }, { name := "serialPersistentFields", type := (.array (.object "java/io/ObjectStreamField")), accessFlags := 26, slot := 2, constantValue := 0 }, { name := "REPL", type := .char, accessFlags := 26, slot := 3, constantValue := 0 }, { name := "CASE_INSENSITIVE_ORDER", type := (.object "java/util/Comparator"), accessFlags := 25, slot := 4, constantValue := 0 }, { name := "LATIN1", type := .byte, accessFlags := 24, slot := 5, constantValue := 0 }, { name := "UTF16", type := .byte, accessFlags := 24, slot := 6, constantValue := 0 }]
  methods := #[k7m0, k7m1, k7m2, k7m3, k7m4, k7m5, k7m6, k7m7, k7m8, k7m9, k7m10]
  instanceTypes := #[(.array .byte), .byte, .int, .boolean]
  staticTypes := #[.long, .boolean, (.array (.object "java/io/ObjectStreamField")), .char, (.object "java/util/Comparator"), .byte, .byte]
  resolved := Array.replicate 1451 none
  statics := some 0 }

def pool8 : Array CpInfo := pool [(1, .class_ 2), (0, u "java/lang/String"), (1, .class_ 6), (1, u "java/lang/Object"), (0, u "<init>"), (0, u "()V"), (0, .methodref 1 10), (0, .nameAndType 11 12), (0, u "checkIndex"), (0, u "(II)V"), (1, .class_ 16), (1, u "java/lang/StringLatin1"), (36, u "([BI)C"), (36, u "canEncode"), (14, u "(C)Z"), (15, u "$assertionsDisabled"), (0, u "Z"), (98, .class_ 223), (1, u "java/lang/StringLatin1$LinesSpliterator"), (28, u "charAt"), (28, u "equals"), (0, u "([B[B)Z"), (97, u "toBytes"), (1, u "(C)[B"), (7, .class_ 391), (0, u "java/lang/StringLatin1$CharsSpliterator")] 3

def k8m0 : Method := { name := "<init>", desc := "()V", sig := { parameters := [], returnType := none }, accessFlags := 0, code := none }
def k8c1 : Code := { maxStack := 2, maxLocals := 2, code := jdk_43_method_2_code, exceptionTable := #[], attributes := #[] }
def k8m1 : Method := { name := "charAt", desc := "([BI)C", sig := { parameters := [(.array .byte), .int], returnType := some .char }, accessFlags := 9, code := some k8c1 }
def k8c2 : Code := { maxStack := 2, maxLocals := 1, code := jdk_43_method_3_code, exceptionTable := #[], attributes := #[] }
def k8m2 : Method := { name := "canEncode", desc := "(C)Z", sig := { parameters := [.char], returnType := some .boolean }, accessFlags := 9, code := some k8c2 }
def k8c3 : Code := { maxStack := 3, maxLocals := 3, code := jdk_43_method_13_code, exceptionTable := #[], attributes := #[] }
def k8m3 : Method := { name := "equals", desc := "([B[B)Z", sig := { parameters := [(.array .byte), (.array .byte)], returnType := some .boolean }, accessFlags := 9, code := some k8c3 }
def k8c4 : Code := { maxStack := 4, maxLocals := 1, code := jdk_43_method_46_code, exceptionTable := #[], attributes := #[] }
def k8m4 : Method := { name := "toBytes", desc := "(C)[B", sig := { parameters := [.char], returnType := some (.array .byte) }, accessFlags := 9, code := some k8c4 }
/-- java/lang/StringLatin1 -/
def k8 : Class := { plain "java/lang/StringLatin1" (some 0) with
  accessFlags := 48
  interfaces := #[]
  cf := some (fileOf pool8 14 #[.nestMembers #[390, 221]] #[{ accessFlags := 0, nameIndex := 7, descriptorIndex := 8, attributes := #[] }, { accessFlags := 9, nameIndex := 252, descriptorIndex := 53, attributes := #[] }, { accessFlags := 9, nameIndex := 90, descriptorIndex := 105, attributes := #[] }, { accessFlags := 9, nameIndex := 281, descriptorIndex := 282, attributes := #[] }, { accessFlags := 9, nameIndex := 380, descriptorIndex := 382, attributes := #[] }] 48 4 #[] #[{ accessFlags := 4120, nameIndex := 121, descriptorIndex := 122, attributes := #[] }])
  fields := #[{ name := "$assertionsDisabled", type := .boolean, accessFlags := 4120, slot := 0, constantValue := 0 }]
  methods := #[k8m0, k8m1, k8m2, k8m3, k8m4]
  instanceTypes := #[]
  staticTypes := #[.boolean]
  resolved := Array.replicate 395 none
  statics := none }

def pool9 : Array CpInfo := pool [(2, .class_ 4), (1, u "java/lang/Object"), (0, u "<init>"), (0, u "()V"), (17, .class_ 26), (1, u "jdk/internal/util/Preconditions"), (6, u "checkIndex"), (21, .class_ 56), (0, u "jdk/internal/util/Preconditions$4"), (57, .class_ 115), (0, u "jdk/internal/util/Preconditions$1"), (7, u "SIOOBE_FORMATTER"), (0, u "Ljava/util/function/BiFunction;"), (0, .class_ 126), (0, u "jdk/internal/util/Preconditions$2"), (3, u "AIOOBE_FORMATTER"), (0, .class_ 132), (0, u "jdk/internal/util/Preconditions$3"), (3, u "IOOBE_FORMATTER"), (41, u "(IILjava/util/function/BiFunction;)I")] 15

def k9m0 : Method := { name := "<init>", desc := "()V", sig := { parameters := [], returnType := none }, accessFlags := 1, code := none }
def k9c1 : Code := { maxStack := 3, maxLocals := 3, code := jdk_41_method_11_code, exceptionTable := #[], attributes := #[] }
def k9m1 : Method := { name := "checkIndex", desc := "(IILjava/util/function/BiFunction;)I", sig := { parameters := [.int, .int, (.object "java/util/function/BiFunction")], returnType := some .int }, accessFlags := 9, code := some k9c1 }
/-- jdk/internal/util/Preconditions -/
def k9 : Class := { plain "jdk/internal/util/Preconditions" (some 0) with
  accessFlags := 33
  interfaces := #[]
  cf := some (fileOf pool9 24 #[.nestMembers #[55, 131, 125, 114]] #[{ accessFlags := 1, nameIndex := 5, descriptorIndex := 6, attributes := #[] }, { accessFlags := 9, nameIndex := 33, descriptorIndex := 178, attributes := #[] }] 33 2 #[] #[{ accessFlags := 25, nameIndex := 123, descriptorIndex := 124, attributes := #[] }, { accessFlags := 25, nameIndex := 130, descriptorIndex := 124, attributes := #[] }, { accessFlags := 25, nameIndex := 136, descriptorIndex := 124, attributes := #[] }])
  fields := #[{ name := "SIOOBE_FORMATTER", type := (.object "java/util/function/BiFunction"), accessFlags := 25, slot := 0, constantValue := 0 }, { name := "AIOOBE_FORMATTER", type := (.object "java/util/function/BiFunction"), accessFlags := 25, slot := 1, constantValue := 0 }, { name := "IOOBE_FORMATTER", type := (.object "java/util/function/BiFunction"), accessFlags := 25, slot := 2, constantValue := 0 }]
  methods := #[k9m0, k9m1]
  instanceTypes := #[]
  staticTypes := #[(.object "java/util/function/BiFunction"), (.object "java/util/function/BiFunction"), (.object "java/util/function/BiFunction")]
  resolved := Array.replicate 194 none
  statics := some 1 }

def pool10 : Array CpInfo := pool [(2, .class_ 4), (1, u "java/lang/Enum"), (0, u "name"), (0, u "Ljava/lang/String;"), (2, u "ordinal"), (0, u "I"), (1, .class_ 14), (1, u "java/lang/Object"), (4, u "hash"), (86, .class_ 108), (1, u "java/lang/Enum$EnumDesc"), (2, .class_ 112), (0, u "java/lang/constant/Constable"), (0, .class_ 114), (0, u "java/lang/Comparable"), (0, .class_ 116), (0, u "java/io/Serializable")] 87

/-- java/lang/Enum -/
def k10 : Class := { plain "java/lang/Enum" (some 0) with
  accessFlags := 1057
  interfaces := #[5, 3, 2]
  cf := some (fileOf pool10 2 #[.nestMembers #[106]] #[] 1057 12 #[111, 113, 115] #[{ accessFlags := 18, nameIndex := 5, descriptorIndex := 6, attributes := #[] }, { accessFlags := 18, nameIndex := 9, descriptorIndex := 10, attributes := #[] }, { accessFlags := 2, nameIndex := 19, descriptorIndex := 10, attributes := #[] }])
  fields := #[{ name := "name", type := (.object "java/lang/String"), accessFlags := 18, slot := 0, constantValue := 0 }, { name := "ordinal", type := .int, accessFlags := 18, slot := 1, constantValue := 0 }, { name := "hash", type := .int, accessFlags := 2, slot := 2, constantValue := 0 }]
  methods := #[]
  instanceTypes := #[(.object "java/lang/String"), .int, .int]
  staticTypes := #[]
  resolved := Array.replicate 204 none
  statics := none }

def pool11 : Array CpInfo := pool [(1, .class_ 2), (0, u "com/example/seshat/seshat/jpql/Database"), (2, u "H2"), (0, u "Lcom/example/seshat/seshat/jpql/Database;"), (2, u "POSTGRESQL"), (2, u "MARIADB"), (0, .fieldref 1 14), (0, .nameAndType 15 16), (0, u "$VALUES"), (0, u "[Lcom/example/seshat/seshat/jpql/Database;"), (0, .methodref 18 19), (0, .class_ 16), (0, .nameAndType 20 21), (0, u "clone"), (0, u "()Ljava/lang/Object;"), (1, .class_ 25), (1, u "java/lang/Enum"), (6, .fieldref 1 33), (0, .nameAndType 34 35), (0, u "propertyValue"), (0, u "Ljava/lang/String;"), (2, u "productName"), (0, .methodref 1 40), (0, .nameAndType 41 42), (0, u "values"), (0, u "()[Lcom/example/seshat/seshat/jpql/Database;"), (0, .methodref 44 45), (0, .class_ 46), (0, .nameAndType 47 48), (0, u "java/lang/String"), (0, u "equals"), (0, u "(Ljava/lang/Object;)Z"), (79, .class_ 129), (0, u "com/example/seshat/seshat/jpql/Database$1"), (9, u "PROPERTY"), (5, u "(Ljava/lang/String;)Lcom/example/seshat/seshat/jpql/Database;"), (3, u "named")] 24

def k11c0 : Code := { maxStack := 1, maxLocals := 0, code := prog_9_method_1_code, exceptionTable := #[], attributes := #[] }
def k11m0 : Method := { name := "values", desc := "()[Lcom/example/seshat/seshat/jpql/Database;", sig := { parameters := [], returnType := some (.array (.object "com/example/seshat/seshat/jpql/Database")) }, accessFlags := 9, code := some k11c0 }
def k11c1 : Code := { maxStack := 2, maxLocals := 5, code := prog_9_method_4_code, exceptionTable := #[], attributes := #[] }
def k11m1 : Method := { name := "named", desc := "(Ljava/lang/String;)Lcom/example/seshat/seshat/jpql/Database;", sig := { parameters := [(.object "java/lang/String")], returnType := some (.object "com/example/seshat/seshat/jpql/Database") }, accessFlags := 9, code := some k11c1 }
/-- com/example/seshat/seshat/jpql/Database -/
def k11 : Class := { plain "com/example/seshat/seshat/jpql/Database" (some 10) with
  accessFlags := 16417
  interfaces := #[]
  cf := some (fileOf pool11 1 #[.nestMembers #[128]] #[{ accessFlags := 9, nameIndex := 41, descriptorIndex := 42, attributes := #[] }, { accessFlags := 9, nameIndex := 149, descriptorIndex := 145, attributes := #[] }] 16417 23 #[] #[{ accessFlags := 16409, nameIndex := 5, descriptorIndex := 6, attributes := #[] }, { accessFlags := 16409, nameIndex := 9, descriptorIndex := 6, attributes := #[] }, { accessFlags := 16409, nameIndex := 12, descriptorIndex := 6, attributes := #[] }, { accessFlags := 25, nameIndex := 139, descriptorIndex := 35, attributes := #[] }, { accessFlags := 18, nameIndex := 34, descriptorIndex := 35, attributes := #[] }, { accessFlags := 18, nameIndex := 38, descriptorIndex := 35, attributes := #[] }, { accessFlags := 4122, nameIndex := 15, descriptorIndex := 16, attributes := #[] }])
  fields := #[{ name := "H2", type := (.object "com/example/seshat/seshat/jpql/Database"), accessFlags := 16409, slot := 0, constantValue := 0 }, { name := "POSTGRESQL", type := (.object "com/example/seshat/seshat/jpql/Database"), accessFlags := 16409, slot := 1, constantValue := 0 }, { name := "MARIADB", type := (.object "com/example/seshat/seshat/jpql/Database"), accessFlags := 16409, slot := 2, constantValue := 0 }, { name := "PROPERTY", type := (.object "java/lang/String"), accessFlags := 25, slot := 3, constantValue := 0 }, { name := "propertyValue", type := (.object "java/lang/String"), accessFlags := 18, slot := 3, constantValue := 0 }, { name := "productName", type := (.object "java/lang/String"), accessFlags := 18, slot := 4, constantValue := 0 }, { name := "$VALUES", type := (.array (.object "com/example/seshat/seshat/jpql/Database")), accessFlags := 4122, slot := 4, constantValue := 0 }]
  methods := #[k11m0, k11m1]
  instanceTypes := #[(.object "java/lang/String"), .int, .int, (.object "java/lang/String"), (.object "java/lang/String")]
  staticTypes := #[(.object "com/example/seshat/seshat/jpql/Database"), (.object "com/example/seshat/seshat/jpql/Database"), (.object "com/example/seshat/seshat/jpql/Database"), (.object "java/lang/String"), (.array (.object "com/example/seshat/seshat/jpql/Database"))]
  resolved := Array.replicate 174 none
  statics := some 2 }

def pool12 : Array CpInfo := pool [(1, .class_ 2), (0, u "java/lang/Cloneable"), (0, .class_ 4), (0, u "java/lang/Object")] 2

/-- java/lang/Cloneable -/
def k12 : Class := { plain "java/lang/Cloneable" (some 0) with
  accessFlags := 1537
  interfaces := #[]
  cf := some (fileOf pool12 1 #[] #[] 1537 3 #[] #[])
  fields := #[]
  methods := #[]
  instanceTypes := #[]
  staticTypes := #[]
  resolved := Array.replicate 7 none
  statics := none }

def pool13 : Array CpInfo := pool [(2, .class_ 4), (1, u "com/example/seshat/seshat/jpql/Database"), (79, .class_ 85), (0, u "com/example/seshat/seshat/jpql/Database$1")] 20

/-- com/example/seshat/seshat/jpql/Database$1 -/
def k13 : Class := { plain "com/example/seshat/seshat/jpql/Database$1" (some 11) with
  accessFlags := 16432
  interfaces := #[]
  cf := some (fileOf pool13 84 #[.nestHost 2] #[] 16432 2 #[] #[])
  fields := #[]
  methods := #[]
  instanceTypes := #[(.object "java/lang/String"), .int, .int, (.object "java/lang/String"), (.object "java/lang/String")]
  staticTypes := #[]
  resolved := Array.replicate 106 none
  statics := none }

def pool14 : Array CpInfo := pool [(6, .class_ 8), (1, u "java/lang/Object"), (0, u "<init>"), (0, u "()V"), (1, .class_ 14), (1, u "java/lang/StringUTF16"), (31, u "$assertionsDisabled"), (0, u "Z"), (13, u "HI_BYTE_SHIFT"), (0, u "I"), (2, u "LO_BYTE_SHIFT"), (49, .methodref 12 116), (0, .nameAndType 117 118), (0, u "compress"), (0, u "([CI[BII)I"), (3, u "([CII)[B"), (138, u "coderFromArrayLen"), (0, u "([BI)B"), (106, .class_ 371), (1, u "java/lang/StringUTF16$LinesSpliterator"), (58, u "MAX_LENGTH"), (196, .class_ 628), (0, u "java/lang/StringUTF16$CodePointsSpliterator"), (0, .class_ 630), (0, u "java/lang/StringUTF16$CharsSpliterator")] 4

def k14m0 : Method := { name := "<init>", desc := "()V", sig := { parameters := [], returnType := none }, accessFlags := 0, code := none }
def k14c1 : Code := { maxStack := 2, maxLocals := 2, code := jdk_52_method_15_code, exceptionTable := #[], attributes := #[] }
def k14m1 : Method := { name := "coderFromArrayLen", desc := "([BI)B", sig := { parameters := [(.array .byte), .int], returnType := some .byte }, accessFlags := 8, code := some k14c1 }
def k14c2 : Code := { maxStack := 5, maxLocals := 6, code := jdk_52_method_16_code, exceptionTable := #[], attributes := #[] }
def k14m2 : Method := { name := "compress", desc := "([CII)[B", sig := { parameters := [(.array .char), .int, .int], returnType := some (.array .byte) }, accessFlags := 9, code := some k14c2 }
def k14c3 : Code := { maxStack := 3, maxLocals := 7, code := jdk_52_method_21_code, exceptionTable := #[], attributes := #[] }
def k14m3 : Method := { name := "compress", desc := "([CI[BII)I", sig := { parameters := [(.array .char), .int, (.array .byte), .int, .int], returnType := some .int }, accessFlags := 9, code := some k14c3 }
/-- java/lang/StringUTF16 -/
def k14 : Class := { plain "java/lang/StringUTF16" (some 0) with
  accessFlags := 48
  interfaces := #[]
  cf := some (fileOf pool14 12 #[.nestMembers #[627, 629, 369]] #[{ accessFlags := 0, nameIndex := 9, descriptorIndex := 10, attributes := #[] }, { accessFlags := 8, nameIndex := 261, descriptorIndex := 262, attributes := #[] }, { accessFlags := 9, nameIndex := 117, descriptorIndex := 122, attributes := #[] }, { accessFlags := 9, nameIndex := 117, descriptorIndex := 118, attributes := #[] }] 48 6 #[] #[{ accessFlags := 26, nameIndex := 61, descriptorIndex := 62, attributes := #[] }, { accessFlags := 26, nameIndex := 65, descriptorIndex := 62, attributes := #[] }, { accessFlags := 24, nameIndex := 430, descriptorIndex := 62, attributes := #[] }, { accessFlags := 4120, nameIndex := 46, descriptorIndex := 47, attributes := #[] }])
  fields := #[{ name := "HI_BYTE_SHIFT", type := .int, accessFlags := 26, slot := 0, constantValue := 0 }, { name := "LO_BYTE_SHIFT", type := .int, accessFlags := 26, slot := 1, constantValue := 0 }, { name := "MAX_LENGTH", type := .int, accessFlags := 24, slot := 2, constantValue := 0 }, { name := "$assertionsDisabled", type := .boolean, accessFlags := 4120, slot := 3, constantValue := 0 }]
  methods := #[k14m0, k14m1, k14m2, k14m3]
  instanceTypes := #[]
  staticTypes := #[.int, .int, .int, .boolean]
  resolved := Array.replicate 635 none
  statics := none }

def pool15 : Array CpInfo := pool [(9, u "<init>"), (6, .class_ 18), (1, u "java/lang/Object"), (0, u "()V"), (1, .class_ 23), (1, u "jdk/internal/util/ArraysSupport"), (0, u "LOG2_ARRAY_LONG_INDEX_SCALE"), (0, u "I"), (2, u "U"), (0, u "Ljdk/internal/misc/Unsafe;"), (8, u "BIG_ENDIAN"), (0, u "Z"), (8, u "LOG2_BYTE_BIT_SIZE"), (4, u "LOG2_ARRAY_INT_INDEX_SCALE"), (54, u "JLA"), (0, u "Ljdk/internal/access/JavaLangAccess;"), (11, u "LOG2_ARRAY_BOOLEAN_INDEX_SCALE"), (9, u "LOG2_ARRAY_BYTE_INDEX_SCALE"), (5, u "LOG2_ARRAY_CHAR_INDEX_SCALE"), (5, u "LOG2_ARRAY_SHORT_INDEX_SCALE"), (18, u "LOG2_ARRAY_FLOAT_INDEX_SCALE"), (24, u "LOG2_ARRAY_DOUBLE_INDEX_SCALE"), (89, u "T_BOOLEAN"), (2, u "T_CHAR"), (1, u "T_FLOAT"), (1, u "T_DOUBLE"), (1, u "T_BYTE"), (1, u "T_SHORT"), (1, u "T_INT"), (1, u "T_LONG"), (1, u "SOFT_MAX_ARRAY_LENGTH")] 83

def k15m0 : Method := { name := "<init>", desc := "()V", sig := { parameters := [], returnType := none }, accessFlags := 2, code := none }
/-- jdk/internal/util/ArraysSupport -/
def k15 : Class := { plain "jdk/internal/util/ArraysSupport" (some 0) with
  accessFlags := 33
  interfaces := #[]
  cf := some (fileOf pool15 21 #[] #[{ accessFlags := 2, nameIndex := 9, descriptorIndex := 19, attributes := #[] }] 33 16 #[] #[{ accessFlags := 24, nameIndex := 28, descriptorIndex := 29, attributes := #[] }, { accessFlags := 26, nameIndex := 38, descriptorIndex := 39, attributes := #[] }, { accessFlags := 25, nameIndex := 121, descriptorIndex := 25, attributes := #[] }, { accessFlags := 25, nameIndex := 131, descriptorIndex := 25, attributes := #[] }, { accessFlags := 25, nameIndex := 137, descriptorIndex := 25, attributes := #[] }, { accessFlags := 25, nameIndex := 143, descriptorIndex := 25, attributes := #[] }, { accessFlags := 25, nameIndex := 53, descriptorIndex := 25, attributes := #[] }, { accessFlags := 25, nameIndex := 24, descriptorIndex := 25, attributes := #[] }, { accessFlags := 25, nameIndex := 162, descriptorIndex := 25, attributes := #[] }, { accessFlags := 25, nameIndex := 187, descriptorIndex := 25, attributes := #[] }, { accessFlags := 26, nameIndex := 48, descriptorIndex := 25, attributes := #[] }, { accessFlags := 25, nameIndex := 277, descriptorIndex := 25, attributes := #[] }, { accessFlags := 25, nameIndex := 280, descriptorIndex := 25, attributes := #[] }, { accessFlags := 25, nameIndex := 282, descriptorIndex := 25, attributes := #[] }, { accessFlags := 25, nameIndex := 284, descriptorIndex := 25, attributes := #[] }, { accessFlags := 25, nameIndex := 286, descriptorIndex := 25, attributes := #[] }, { accessFlags := 25, nameIndex := 288, descriptorIndex := 25, attributes := #[] }, { accessFlags := 25, nameIndex := 290, descriptorIndex := 25, attributes := #[] }, { accessFlags := 25, nameIndex := 292, descriptorIndex := 25, attributes := #[] }, { accessFlags := 26, nameIndex := 108, descriptorIndex := 109, attributes := #[] }, { accessFlags := 25, nameIndex := 294, descriptorIndex := 25, attributes := #[] }])
  fields := #[{ name := "U", type := (.object "jdk/internal/misc/Unsafe"), accessFlags := 24, slot := 0, constantValue := 0 }, { name := "BIG_ENDIAN", type := .boolean, accessFlags := 26, slot := 1, constantValue := 0 }, { name := "LOG2_ARRAY_BOOLEAN_INDEX_SCALE", type := .int, accessFlags := 25, slot := 2, constantValue := 0 }, { name := "LOG2_ARRAY_BYTE_INDEX_SCALE", type := .int, accessFlags := 25, slot := 3, constantValue := 0 }, { name := "LOG2_ARRAY_CHAR_INDEX_SCALE", type := .int, accessFlags := 25, slot := 4, constantValue := 0 }, { name := "LOG2_ARRAY_SHORT_INDEX_SCALE", type := .int, accessFlags := 25, slot := 5, constantValue := 0 }, { name := "LOG2_ARRAY_INT_INDEX_SCALE", type := .int, accessFlags := 25, slot := 6, constantValue := 0 }, { name := "LOG2_ARRAY_LONG_INDEX_SCALE", type := .int, accessFlags := 25, slot := 7, constantValue := 0 }, { name := "LOG2_ARRAY_FLOAT_INDEX_SCALE", type := .int, accessFlags := 25, slot := 8, constantValue := 0 }, { name := "LOG2_ARRAY_DOUBLE_INDEX_SCALE", type := .int, accessFlags := 25, slot := 9, constantValue := 0 }, { name := "LOG2_BYTE_BIT_SIZE", type := .int, accessFlags := 26, slot := 10, constantValue := 0 }, { name := "T_BOOLEAN", type := .int, accessFlags := 25, slot := 11, constantValue := 0 }, { name := "T_CHAR", type := .int, accessFlags := 25, slot := 12, constantValue := 0 }, { name := "T_FLOAT", type := .int, accessFlags := 25, slot := 13, constantValue := 0 }, { name := "T_DOUBLE", type := .int, accessFlags := 25, slot := 14, constantValue := 0 }, { name := "T_BYTE", type := .int, accessFlags := 25, slot := 15, constantValue := 0 }, { name := "T_SHORT", type := .int, accessFlags := 25, slot := 16, constantValue := 0 }, { name := "T_INT", type := .int, accessFlags := 25, slot := 17, constantValue := 0 }, { name := "T_LONG", type := .int, accessFlags := 25, slot := 18, constantValue := 0 }, { name := "JLA", type := (.object "jdk/internal/access/JavaLangAccess"), accessFlags := 26, slot := 19, constantValue := 0 }, { name := "SOFT_MAX_ARRAY_LENGTH", type := .int, accessFlags := 25, slot := 20, constantValue := 0 }]
  methods := #[k15m0]
  instanceTypes := #[]
  staticTypes := #[(.object "jdk/internal/misc/Unsafe"), .boolean, .int, .int, .int, .int, .int, .int, .int, .int, .int, .int, .int, .int, .int, .int, .int, .int, .int, (.object "jdk/internal/access/JavaLangAccess"), .int]
  resolved := Array.replicate 378 none
  statics := none }

/-- the primitive byte -/
def k16 : Class := { plain "byte" none with kind := .primitive 'B', accessFlags := 0x411 }
/-- [B -/
def k17 : Class := { plain "[B" (some 0) with kind := .array 16 .byte, interfaces := #[12, 2], accessFlags := 1041 }

/-- the primitive char -/
def k18 : Class := { plain "char" none with kind := .primitive 'C', accessFlags := 0x411 }
/-- [C -/
def k19 : Class := { plain "[C" (some 0) with kind := .array 18 .char, interfaces := #[12, 2], accessFlags := 1041 }

/-- the primitive int -/
def k20 : Class := { plain "int" none with kind := .primitive 'I', accessFlags := 0x411 }
/-- [I -/
def k21 : Class := { plain "[I" (some 0) with kind := .array 20 .int, interfaces := #[12, 2], accessFlags := 1041 }

/-- [Lcom/example/seshat/seshat/jpql/Database; -/
def k22 : Class := { plain "[Lcom/example/seshat/seshat/jpql/Database;" (some 0) with kind := .array 11 (.object "com/example/seshat/seshat/jpql/Database"), interfaces := #[12, 2], accessFlags := 1041 }

def heap : Heap := #[{ cls := 7, slots := #[.long 0, .int 1, .null, .int 0, .null, .int 0, .int 0], vm := .statics 7 },
  { cls := 9, slots := #[.null, .null, .null], vm := .statics 9 },
  { cls := 11, slots := #[.ref 4, .ref 5, .ref 6, .null, .ref 3], vm := .statics 11 },
  { cls := 22, slots := #[.ref 4, .ref 5, .ref 6], vm := .none },
  { cls := 11, slots := #[.null, .int 0, .int 0, .ref 7, .null], vm := .none },
  { cls := 11, slots := #[.null, .int 1, .int 0, .ref 8, .null], vm := .none },
  { cls := 13, slots := #[.null, .int 2, .int 0, .ref 9, .null], vm := .none },
  { cls := 7, slots := #[.ref 10, .int 0, .int 0, .int 0], vm := .none },
  { cls := 7, slots := #[.ref 11, .int 0, .int 0, .int 0], vm := .none },
  { cls := 7, slots := #[.ref 12, .int 0, .int 0, .int 0], vm := .none },
  { cls := 17, slots := #[.int 104, .int 50], vm := .none },
  { cls := 17, slots := #[.int 112, .int 111, .int 115, .int 116, .int 103, .int 114, .int 101, .int 115, .int 113, .int 108], vm := .none },
  { cls := 17, slots := #[.int 109, .int 97, .int 114, .int 105, .int 97, .int 100, .int 98], vm := .none }]
def classes : Array Class := #[k0, k1, k2, k3, k4, k5, k6, k7, k8, k9, k10, k11, k12, k13, k14, k15, k16, k17, k18, k19, k20, k21, k22]
def interned : List (Array UInt16 × Addr) := []
def slotsUsed : Nat := 64
def theMethod : MethodId := ⟨1, 1⟩
def args0 : Array Value := #[.int 3, .int 4, .int 65, .int 66]
def aboutOver (below : List Frame) : State where
  vm := { classes := classes, interned := interned.toArray }
  heap := heap
  slotsUsed := slotsUsed
  threads := #[{ frames := .invoking theMethod args0 :: below }]
def below0 : List Frame := [.native { method := ⟨0, 0⟩, args := #[] }]
def about1 : State := aboutOver below0
def p0 : Program := .bare "" "" ""
def e0 : Env := launch0.env 0 0 0
theorem w_frames : about1.frames = Frame.invoking theMethod args0 :: below0 := rfl
set_option maxRecDepth 65536 in
theorem w_args : argsFit about1.vm theMethod args0 = true := by decide +kernel
set_option maxRecDepth 65536 in
theorem w_heap : heapFits about1 = true := by decide +kernel
set_option maxRecDepth 65536 in
theorem w_runnable : about1.curStatus? = some .runnable := by decide +kernel
set_option maxRecDepth 65536 in
theorem w_alone : about1.alone = true := by decide +kernel
set_option maxRecDepth 65536 in
theorem w_named : about1.methodNamed? x = some theMethod := by decide +kernel
set_option maxRecDepth 65536 in
theorem w_hears : about1.hears theMethod below0 = true := by decide +kernel
set_option maxRecDepth 65536 in
theorem w_ripe : about1.ripe theMethod args0 below0 = true := by decide +kernel
theorem w_running : about1.status = .running := rfl
set_option maxRecDepth 65536 in
theorem w_room : about1.hasRoom e0.platform room_1 = true :=
  launch0.hasRoom_least _ room_1 (by decide +kernel) (by decide +kernel) (by decide +kernel) (by decide +kernel) (by decide +kernel) (by decide +kernel)
theorem allAtoms_all (ts : List Jvm.Cond) (a : Array Jvm.Value) (st : Jvm.State) : (allAtoms ts).before a st = ts.all (fun c => c.before a st) := by
  induction ts with
  | nil => rfl
  | cons c t ih =>
    show (Jvm.Cond.and c (allAtoms t)).before a st = _
    rw [Jvm.Cond.before_and, ih, List.all_cons]
def words1 : List Jvm.Cond := Jvm.Cond.code x code maxLocals ret :: tables_1
/-- a 'code' word, met by the world's own term for the bytes: nothing is compared byte by byte -/
theorem code_word {y : MethodName} {bytes : ByteArray} {mx : Nat} {rt : Option FieldType} {a : Array Value} {s : State} {m : MethodId} {meth : Method} {c : Code} (h1 : s.methodNamed? y = some m) (h2 : s.vm.method? m = some meth) (h3 : meth.code = some c) (h4 : c.code = bytes)
    (h5 : (c.maxLocals == mx && c.exceptionTable.isEmpty && decide (c.maxStack ≤ mostOperands) && decide (meth.sig.returnType = rt) && !meth.locks && decide (parseMethodDescriptor y.desc = some meth.sig)) = true) : (Jvm.Cond.code y bytes mx rt).before a s = true := by
  simp only [Bool.and_eq_true, beq_iff_eq, Bool.not_eq_true', decide_eq_true_eq] at h5
  obtain ⟨⟨⟨⟨⟨g1, g2⟩, g3⟩, g4⟩, g5⟩, g6⟩ := h5
  simp [Cond.before, Cond.holds, Cond.value, h1, h2, h3, h4, g1, g2, g3, g4, g5, g6]
def isCode : Jvm.Cond → Bool
  | .code _ _ _ _ => true
  | _ => false
theorem all_split {L : List Jvm.Cond} {P : Jvm.Cond → Bool} (h1 : L.all (fun c => isCode c || P c) = true) (h2 : ∀ c ∈ L.filter isCode, P c = true) : L.all P = true := by
  refine List.all_eq_true.mpr fun c hc => ?_
  have h := List.all_eq_true.mp h1 c hc
  rcases Bool.eq_false_or_eq_true (isCode c) with hi | hi
  · exact h2 c (List.mem_filter.mpr ⟨hc, hi⟩)
  · simpa [hi] using h
set_option maxRecDepth 65536 in
theorem w_c0 : (Jvm.Cond.code x code maxLocals ret).before args0 about1 = true := code_word (m := ⟨1, 1⟩) (meth := k1m1) (c := k1c1) (by decide +kernel) rfl rfl rfl (by decide +kernel)
set_option maxRecDepth 65536 in
theorem w_c1 : (Jvm.Cond.code ({ cls := "java/lang/String", name := "length", desc := "()I" } : Jvm.MethodName) jdk_42_method_54_code (1 : Nat) (Option.some Jvm.ClassFile.FieldType.int)).before args0 about1 = true := code_word (m := ⟨7, 2⟩) (meth := k7m2) (c := k7c2) (by decide +kernel) rfl rfl rfl (by decide +kernel)
set_option maxRecDepth 65536 in
theorem w_c2 : (Jvm.Cond.code ({ cls := "java/lang/String", name := "coder", desc := "()B" } : Jvm.MethodName) jdk_42_method_152_code (1 : Nat) (Option.some Jvm.ClassFile.FieldType.byte)).before args0 about1 = true := code_word (m := ⟨7, 8⟩) (meth := k7m8) (c := k7c8) (by decide +kernel) rfl rfl rfl (by decide +kernel)
set_option maxRecDepth 65536 in
theorem w_c3 : (Jvm.Cond.code ({ cls := "com/example/seshat/seshat/jpql/DatabaseNamedPinLaw", name := "word", desc := "(Ljava/lang/String;IIC)Ljava/lang/String;" } : Jvm.MethodName) method_5_code (15 : Nat) (Option.some (Jvm.ClassFile.FieldType.object "java/lang/String"))).before args0 about1 = true := code_word (m := ⟨1, 4⟩) (meth := k1m4) (c := k1c4) (by decide +kernel) rfl rfl rfl (by decide +kernel)
set_option maxRecDepth 65536 in
theorem w_c4 : (Jvm.Cond.code ({ cls := "com/example/seshat/seshat/jpql/DatabaseNamedPinLaw", name := "at", desc := "(Ljava/lang/String;IIC)C" } : Jvm.MethodName) method_4_code (4 : Nat) (Option.some Jvm.ClassFile.FieldType.char)).before args0 about1 = true := code_word (m := ⟨1, 3⟩) (meth := k1m3) (c := k1c3) (by decide +kernel) rfl rfl rfl (by decide +kernel)
set_option maxRecDepth 65536 in
theorem w_c5 : (Jvm.Cond.code ({ cls := "java/lang/String", name := "charAt", desc := "(I)C" } : Jvm.MethodName) jdk_42_method_56_code (2 : Nat) (Option.some Jvm.ClassFile.FieldType.char)).before args0 about1 = true := code_word (m := ⟨7, 3⟩) (meth := k7m3) (c := k7c3) (by decide +kernel) rfl rfl rfl (by decide +kernel)
set_option maxRecDepth 65536 in
theorem w_c6 : (Jvm.Cond.code ({ cls := "java/lang/String", name := "isLatin1", desc := "()Z" } : Jvm.MethodName) jdk_42_method_154_code (1 : Nat) (Option.some Jvm.ClassFile.FieldType.boolean)).before args0 about1 = true := code_word (m := ⟨7, 9⟩) (meth := k7m9) (c := k7c9) (by decide +kernel) rfl rfl rfl (by decide +kernel)
set_option maxRecDepth 65536 in
theorem w_c7 : (Jvm.Cond.code ({ cls := "java/lang/StringLatin1", name := "charAt", desc := "([BI)C" } : Jvm.MethodName) jdk_43_method_2_code (2 : Nat) (Option.some Jvm.ClassFile.FieldType.char)).before args0 about1 = true := code_word (m := ⟨8, 1⟩) (meth := k8m1) (c := k8c1) (by decide +kernel) rfl rfl rfl (by decide +kernel)
set_option maxRecDepth 65536 in
theorem w_c8 : (Jvm.Cond.code ({ cls := "java/lang/String", name := "checkIndex", desc := "(II)V" } : Jvm.MethodName) jdk_42_method_155_code (2 : Nat) (Option.none : Option Jvm.ClassFile.FieldType)).before args0 about1 = true := code_word (m := ⟨7, 10⟩) (meth := k7m10) (c := k7c10) (by decide +kernel) rfl rfl rfl (by decide +kernel)
set_option maxRecDepth 65536 in
theorem w_c9 : (Jvm.Cond.code ({ cls := "jdk/internal/util/Preconditions", name := "checkIndex", desc := "(IILjava/util/function/BiFunction;)I" } : Jvm.MethodName) jdk_41_method_11_code (3 : Nat) (Option.some Jvm.ClassFile.FieldType.int)).before args0 about1 = true := code_word (m := ⟨9, 1⟩) (meth := k9m1) (c := k9c1) (by decide +kernel) rfl rfl rfl (by decide +kernel)
set_option maxRecDepth 65536 in
theorem w_c10 : (Jvm.Cond.code ({ cls := "java/lang/String", name := "valueOf", desc := "(C)Ljava/lang/String;" } : Jvm.MethodName) jdk_42_method_139_code (1 : Nat) (Option.some (Jvm.ClassFile.FieldType.object "java/lang/String"))).before args0 about1 = true := code_word (m := ⟨7, 5⟩) (meth := k7m5) (c := k7c5) (by decide +kernel) rfl rfl rfl (by decide +kernel)
set_option maxRecDepth 65536 in
theorem w_c11 : (Jvm.Cond.code ({ cls := "java/lang/StringLatin1", name := "canEncode", desc := "(C)Z" } : Jvm.MethodName) jdk_43_method_3_code (1 : Nat) (Option.some Jvm.ClassFile.FieldType.boolean)).before args0 about1 = true := code_word (m := ⟨8, 2⟩) (meth := k8m2) (c := k8c2) (by decide +kernel) rfl rfl rfl (by decide +kernel)
set_option maxRecDepth 65536 in
theorem w_c12 : (Jvm.Cond.code ({ cls := "java/lang/StringLatin1", name := "toBytes", desc := "(C)[B" } : Jvm.MethodName) jdk_43_method_46_code (1 : Nat) (Option.some (Jvm.ClassFile.FieldType.array Jvm.ClassFile.FieldType.byte))).before args0 about1 = true := code_word (m := ⟨8, 4⟩) (meth := k8m4) (c := k8c4) (by decide +kernel) rfl rfl rfl (by decide +kernel)
set_option maxRecDepth 65536 in
theorem w_c13 : (Jvm.Cond.code ({ cls := "java/lang/String", name := "<init>", desc := "([BB)V" } : Jvm.MethodName) jdk_42_method_151_code (3 : Nat) (Option.none : Option Jvm.ClassFile.FieldType)).before args0 about1 = true := code_word (m := ⟨7, 7⟩) (meth := k7m7) (c := k7c7) (by decide +kernel) rfl rfl rfl (by decide +kernel)
set_option maxRecDepth 65536 in
theorem w_c14 : (Jvm.Cond.code ({ cls := "java/lang/Object", name := "<init>", desc := "()V" } : Jvm.MethodName) object_method_1_code (1 : Nat) (Option.none : Option Jvm.ClassFile.FieldType)).before args0 about1 = true := code_word (m := ⟨0, 0⟩) (meth := k0m0) (c := k0c0) (by decide +kernel) rfl rfl rfl (by decide +kernel)
set_option maxRecDepth 65536 in
theorem w_c15 : (Jvm.Cond.code ({ cls := "com/example/seshat/seshat/jpql/Database", name := "named", desc := "(Ljava/lang/String;)Lcom/example/seshat/seshat/jpql/Database;" } : Jvm.MethodName) prog_9_method_4_code (5 : Nat) (Option.some (Jvm.ClassFile.FieldType.object "com/example/seshat/seshat/jpql/Database"))).before args0 about1 = true := code_word (m := ⟨11, 1⟩) (meth := k11m1) (c := k11c1) (by decide +kernel) rfl rfl rfl (by decide +kernel)
set_option maxRecDepth 65536 in
theorem w_c16 : (Jvm.Cond.code ({ cls := "com/example/seshat/seshat/jpql/Database", name := "values", desc := "()[Lcom/example/seshat/seshat/jpql/Database;" } : Jvm.MethodName) prog_9_method_1_code (0 : Nat) (Option.some (Jvm.ClassFile.FieldType.array (Jvm.ClassFile.FieldType.object "com/example/seshat/seshat/jpql/Database")))).before args0 about1 = true := code_word (m := ⟨11, 0⟩) (meth := k11m0) (c := k11c0) (by decide +kernel) rfl rfl rfl (by decide +kernel)
set_option maxRecDepth 65536 in
theorem w_c17 : (Jvm.Cond.code ({ cls := "java/lang/String", name := "equals", desc := "(Ljava/lang/Object;)Z" } : Jvm.MethodName) jdk_42_method_66_code (3 : Nat) (Option.some Jvm.ClassFile.FieldType.boolean)).before args0 about1 = true := code_word (m := ⟨7, 4⟩) (meth := k7m4) (c := k7c4) (by decide +kernel) rfl rfl rfl (by decide +kernel)
set_option maxRecDepth 65536 in
theorem w_c18 : (Jvm.Cond.code ({ cls := "java/lang/StringLatin1", name := "equals", desc := "([B[B)Z" } : Jvm.MethodName) jdk_43_method_13_code (3 : Nat) (Option.some Jvm.ClassFile.FieldType.boolean)).before args0 about1 = true := code_word (m := ⟨8, 3⟩) (meth := k8m3) (c := k8c3) (by decide +kernel) rfl rfl rfl (by decide +kernel)
set_option maxRecDepth 65536 in
theorem w_c19 : (Jvm.Cond.code ({ cls := "com/example/seshat/seshat/jpql/DatabaseNamedPinLaw", name := "expected", desc := "(Ljava/lang/String;)Lcom/example/seshat/seshat/jpql/Database;" } : Jvm.MethodName) method_3_code (1 : Nat) (Option.some (Jvm.ClassFile.FieldType.object "com/example/seshat/seshat/jpql/Database"))).before args0 about1 = true := code_word (m := ⟨1, 2⟩) (meth := k1m2) (c := k1c2) (by decide +kernel) rfl rfl rfl (by decide +kernel)
set_option maxRecDepth 65536 in
theorem w_c20 : (Jvm.Cond.code ({ cls := "java/lang/String", name := "<init>", desc := "([C)V" } : Jvm.MethodName) jdk_42_method_3_code (2 : Nat) (Option.none : Option Jvm.ClassFile.FieldType)).before args0 about1 = true := code_word (m := ⟨7, 1⟩) (meth := k7m1) (c := k7c1) (by decide +kernel) rfl rfl rfl (by decide +kernel)
set_option maxRecDepth 65536 in
theorem w_c21 : (Jvm.Cond.code ({ cls := "java/lang/String", name := "<init>", desc := "([CIILjava/lang/Void;)V" } : Jvm.MethodName) jdk_42_method_149_code (6 : Nat) (Option.none : Option Jvm.ClassFile.FieldType)).before args0 about1 = true := code_word (m := ⟨7, 6⟩) (meth := k7m6) (c := k7c6) (by decide +kernel) rfl rfl rfl (by decide +kernel)
set_option maxRecDepth 65536 in
theorem w_c22 : (Jvm.Cond.code ({ cls := "java/lang/StringUTF16", name := "compress", desc := "([CII)[B" } : Jvm.MethodName) jdk_52_method_16_code (6 : Nat) (Option.some (Jvm.ClassFile.FieldType.array Jvm.ClassFile.FieldType.byte))).before args0 about1 = true := code_word (m := ⟨14, 2⟩) (meth := k14m2) (c := k14c2) (by decide +kernel) rfl rfl rfl (by decide +kernel)
set_option maxRecDepth 65536 in
theorem w_c23 : (Jvm.Cond.code ({ cls := "java/lang/StringUTF16", name := "compress", desc := "([CI[BII)I" } : Jvm.MethodName) jdk_52_method_21_code (7 : Nat) (Option.some Jvm.ClassFile.FieldType.int)).before args0 about1 = true := code_word (m := ⟨14, 3⟩) (meth := k14m3) (c := k14c3) (by decide +kernel) rfl rfl rfl (by decide +kernel)
set_option maxRecDepth 65536 in
theorem w_c24 : (Jvm.Cond.code ({ cls := "java/lang/StringUTF16", name := "coderFromArrayLen", desc := "([BI)B" } : Jvm.MethodName) jdk_52_method_15_code (2 : Nat) (Option.some Jvm.ClassFile.FieldType.byte)).before args0 about1 = true := code_word (m := ⟨14, 1⟩) (meth := k14m1) (c := k14c1) (by decide +kernel) rfl rfl rfl (by decide +kernel)
def codes1 : List Jvm.Cond := [Jvm.Cond.code x code maxLocals ret, Jvm.Cond.code ({ cls := "java/lang/String", name := "length", desc := "()I" } : Jvm.MethodName) jdk_42_method_54_code (1 : Nat) (Option.some Jvm.ClassFile.FieldType.int), Jvm.Cond.code ({ cls := "java/lang/String", name := "coder", desc := "()B" } : Jvm.MethodName) jdk_42_method_152_code (1 : Nat) (Option.some Jvm.ClassFile.FieldType.byte), Jvm.Cond.code ({ cls := "com/example/seshat/seshat/jpql/DatabaseNamedPinLaw", name := "word", desc := "(Ljava/lang/String;IIC)Ljava/lang/String;" } : Jvm.MethodName) method_5_code (15 : Nat) (Option.some (Jvm.ClassFile.FieldType.object "java/lang/String")), Jvm.Cond.code ({ cls := "com/example/seshat/seshat/jpql/DatabaseNamedPinLaw", name := "at", desc := "(Ljava/lang/String;IIC)C" } : Jvm.MethodName) method_4_code (4 : Nat) (Option.some Jvm.ClassFile.FieldType.char), Jvm.Cond.code ({ cls := "java/lang/String", name := "charAt", desc := "(I)C" } : Jvm.MethodName) jdk_42_method_56_code (2 : Nat) (Option.some Jvm.ClassFile.FieldType.char), Jvm.Cond.code ({ cls := "java/lang/String", name := "isLatin1", desc := "()Z" } : Jvm.MethodName) jdk_42_method_154_code (1 : Nat) (Option.some Jvm.ClassFile.FieldType.boolean), Jvm.Cond.code ({ cls := "java/lang/StringLatin1", name := "charAt", desc := "([BI)C" } : Jvm.MethodName) jdk_43_method_2_code (2 : Nat) (Option.some Jvm.ClassFile.FieldType.char), Jvm.Cond.code ({ cls := "java/lang/String", name := "checkIndex", desc := "(II)V" } : Jvm.MethodName) jdk_42_method_155_code (2 : Nat) (Option.none : Option Jvm.ClassFile.FieldType), Jvm.Cond.code ({ cls := "jdk/internal/util/Preconditions", name := "checkIndex", desc := "(IILjava/util/function/BiFunction;)I" } : Jvm.MethodName) jdk_41_method_11_code (3 : Nat) (Option.some Jvm.ClassFile.FieldType.int), Jvm.Cond.code ({ cls := "java/lang/String", name := "valueOf", desc := "(C)Ljava/lang/String;" } : Jvm.MethodName) jdk_42_method_139_code (1 : Nat) (Option.some (Jvm.ClassFile.FieldType.object "java/lang/String")), Jvm.Cond.code ({ cls := "java/lang/StringLatin1", name := "canEncode", desc := "(C)Z" } : Jvm.MethodName) jdk_43_method_3_code (1 : Nat) (Option.some Jvm.ClassFile.FieldType.boolean), Jvm.Cond.code ({ cls := "java/lang/StringLatin1", name := "toBytes", desc := "(C)[B" } : Jvm.MethodName) jdk_43_method_46_code (1 : Nat) (Option.some (Jvm.ClassFile.FieldType.array Jvm.ClassFile.FieldType.byte)), Jvm.Cond.code ({ cls := "java/lang/String", name := "<init>", desc := "([BB)V" } : Jvm.MethodName) jdk_42_method_151_code (3 : Nat) (Option.none : Option Jvm.ClassFile.FieldType), Jvm.Cond.code ({ cls := "java/lang/Object", name := "<init>", desc := "()V" } : Jvm.MethodName) object_method_1_code (1 : Nat) (Option.none : Option Jvm.ClassFile.FieldType), Jvm.Cond.code ({ cls := "com/example/seshat/seshat/jpql/Database", name := "named", desc := "(Ljava/lang/String;)Lcom/example/seshat/seshat/jpql/Database;" } : Jvm.MethodName) prog_9_method_4_code (5 : Nat) (Option.some (Jvm.ClassFile.FieldType.object "com/example/seshat/seshat/jpql/Database")), Jvm.Cond.code ({ cls := "com/example/seshat/seshat/jpql/Database", name := "values", desc := "()[Lcom/example/seshat/seshat/jpql/Database;" } : Jvm.MethodName) prog_9_method_1_code (0 : Nat) (Option.some (Jvm.ClassFile.FieldType.array (Jvm.ClassFile.FieldType.object "com/example/seshat/seshat/jpql/Database"))), Jvm.Cond.code ({ cls := "java/lang/String", name := "equals", desc := "(Ljava/lang/Object;)Z" } : Jvm.MethodName) jdk_42_method_66_code (3 : Nat) (Option.some Jvm.ClassFile.FieldType.boolean), Jvm.Cond.code ({ cls := "java/lang/StringLatin1", name := "equals", desc := "([B[B)Z" } : Jvm.MethodName) jdk_43_method_13_code (3 : Nat) (Option.some Jvm.ClassFile.FieldType.boolean), Jvm.Cond.code ({ cls := "com/example/seshat/seshat/jpql/DatabaseNamedPinLaw", name := "expected", desc := "(Ljava/lang/String;)Lcom/example/seshat/seshat/jpql/Database;" } : Jvm.MethodName) method_3_code (1 : Nat) (Option.some (Jvm.ClassFile.FieldType.object "com/example/seshat/seshat/jpql/Database")), Jvm.Cond.code ({ cls := "java/lang/String", name := "<init>", desc := "([C)V" } : Jvm.MethodName) jdk_42_method_3_code (2 : Nat) (Option.none : Option Jvm.ClassFile.FieldType), Jvm.Cond.code ({ cls := "java/lang/String", name := "<init>", desc := "([CIILjava/lang/Void;)V" } : Jvm.MethodName) jdk_42_method_149_code (6 : Nat) (Option.none : Option Jvm.ClassFile.FieldType), Jvm.Cond.code ({ cls := "java/lang/StringUTF16", name := "compress", desc := "([CII)[B" } : Jvm.MethodName) jdk_52_method_16_code (6 : Nat) (Option.some (Jvm.ClassFile.FieldType.array Jvm.ClassFile.FieldType.byte)), Jvm.Cond.code ({ cls := "java/lang/StringUTF16", name := "compress", desc := "([CI[BII)I" } : Jvm.MethodName) jdk_52_method_21_code (7 : Nat) (Option.some Jvm.ClassFile.FieldType.int), Jvm.Cond.code ({ cls := "java/lang/StringUTF16", name := "coderFromArrayLen", desc := "([BI)B" } : Jvm.MethodName) jdk_52_method_15_code (2 : Nat) (Option.some Jvm.ClassFile.FieldType.byte)]
set_option maxRecDepth 65536 in
theorem codes_eq : words1.filter isCode = codes1 := rfl
theorem w_codes : ∀ c ∈ words1.filter isCode, c.before args0 about1 = true := by
  rw [codes_eq]
  intro c hc
  simp only [codes1, List.mem_cons, List.not_mem_nil, or_false] at hc
  rcases hc with rfl | rfl | rfl | rfl | rfl | rfl | rfl | rfl | rfl | rfl | rfl | rfl | rfl | rfl | rfl | rfl | rfl | rfl | rfl | rfl | rfl | rfl | rfl | rfl | rfl
  · exact w_c0
  · exact w_c1
  · exact w_c2
  · exact w_c3
  · exact w_c4
  · exact w_c5
  · exact w_c6
  · exact w_c7
  · exact w_c8
  · exact w_c9
  · exact w_c10
  · exact w_c11
  · exact w_c12
  · exact w_c13
  · exact w_c14
  · exact w_c15
  · exact w_c16
  · exact w_c17
  · exact w_c18
  · exact w_c19
  · exact w_c20
  · exact w_c21
  · exact w_c22
  · exact w_c23
  · exact w_c24
set_option maxRecDepth 65536 in
theorem w_t1 : (words1.take 24).all (fun c => isCode c || c.before args0 about1) = true := by decide +kernel
set_option maxRecDepth 65536 in
theorem w_t2 : ((words1.drop 24).take 24).all (fun c => isCode c || c.before args0 about1) = true := by decide +kernel
set_option maxRecDepth 65536 in
theorem w_t3 : (((words1.drop 24).drop 24).take 24).all (fun c => isCode c || c.before args0 about1) = true := by decide +kernel
set_option maxRecDepth 65536 in
theorem w_t4 : ((((words1.drop 24).drop 24).drop 24).take 24).all (fun c => isCode c || c.before args0 about1) = true := by decide +kernel
set_option maxRecDepth 65536 in
theorem w_t5 : (((((words1.drop 24).drop 24).drop 24).drop 24).take 24).all (fun c => isCode c || c.before args0 about1) = true := by decide +kernel
set_option maxRecDepth 65536 in
theorem w_t6 : (((((words1.drop 24).drop 24).drop 24).drop 24).drop 24).all (fun c => isCode c || c.before args0 about1) = true := by decide +kernel
theorem w_tables : (allAtoms (Jvm.Cond.code x code maxLocals ret :: tables_1)).before args0 about1 = true := by
  rw [allAtoms_all]
  show words1.all (fun c => c.before args0 about1) = true
  refine all_split ?_ w_codes
  rw [← List.take_append_drop 24 words1, List.all_append, w_t1, ← List.take_append_drop 24 (words1.drop 24), List.all_append, w_t2, ← List.take_append_drop 24 ((words1.drop 24).drop 24), List.all_append, w_t3, ← List.take_append_drop 24 (((words1.drop 24).drop 24).drop 24), List.all_append, w_t4, ← List.take_append_drop 24 ((((words1.drop 24).drop 24).drop 24).drop 24), List.all_append, w_t5, w_t6]
  rfl
set_option maxRecDepth 65536 in
theorem w_rest : rest_1_c.before args0 about1 = true := by decide +kernel
set_option maxRecDepth 65536 in
theorem w_case : (Jvm.Cond.and given_1 narrow_1).before args0 about1 = true := by decide +kernel
set_option maxRecDepth 65536 in
theorem w_consts : constsHeld consts_1 about1 := Jvm.Lit.constsHeldB_iff.mp (by decide +kernel)
theorem w_applies : (headSpec (Jvm.Cond.code x code maxLocals ret :: tables_1) room_1).applies x e0.platform about1 = true :=
  (Spec.applies_iff w_frames).mpr ⟨w_running, w_runnable, w_alone, w_named, w_hears, w_ripe, w_room, w_tables⟩
theorem atStart : AtStart classFile x code maxLocals ret World_1 tables_1 room_1 Calls_1 rest_1 Pre_1 launch0 p0 e0 about1 theMethod args0 below0 :=
  ⟨lists_1, trivial, launch0.admits_env _ _ _, launch0.least_env, fairChoices_fair.cas, fairChoices_fair.clock, w_frames, w_args, w_heap, w_applies, ⟨w_consts, trivial⟩, w_rest, w_case⟩
end start1
theorem witness_1 : WitnessClaimed_1 := ⟨start1.p0, start1.e0, start1.about1, start1.theMethod, start1.args0, start1.below0, start1.atStart⟩
end Jvm.Pilot.@@N@@
