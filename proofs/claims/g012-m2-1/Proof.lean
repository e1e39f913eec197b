import JvmDerived
import JvmDerived.Pilot.@@N@@Statement
import JvmDerived.Pilot.@@N@@Code
set_option linter.unusedVariables false
set_option linter.unusedSimpArgs false
@@BLOCK:NumsL.lean.txt@@
namespace Jvm.RoadKit
open Sem ClassFile Op Lib Jvm.Stand Jvm.Free Jvm.LawKit
section New
variable {p : Program} {l : Launch} {e : Env} {R : Room} {s : State} {m : MethodId} {args : Array Value} {below : List Frame} {meth : Method} {c : Code} {T : State} {locs : List Loc} {cells slots : Nat}
theorem retI (X : Stand p l e R s m args below meth c T locs cells slots) (hx : p.tables.exec = Jvm.exec) {pc : Nat} {Ls : Array Slot} {z : Int32} {rest : List Value} (hret : meth.sig.returnType = some .int) (hd : decode c.code pc = .ok (.ireturn, 1)) {fs : List Frame}
    (hl : ∀ (f : JFrame) (acts : List Action), f.method = m → f.locked = none → f.entered = [] → (doReturn e (T.setTop f) acts (some (.int z))).1 = T.setFrames fs) : Steps p.tables e below (T.setTop (mkF m pc Ls (.int z :: rest))) (T.setFrames fs) := by
  have hm' : T.vm.method? m = some meth := X.method'
  have hn : narrow .int (.int z) = .int z := rfl
  show Steps p.tables e below (T.setTop { method := m, pc := pc, locals := Ls, stack := _ :: rest, locked := none }) _
  jvm_step X.here [X.here.top, hx, hd, hm', hret, hn]
  first | (intro acts; rw [hl _ acts rfl rfl rfl]) | rw [hl _ _ rfl rfl rfl]
  exact Steps.refl _
end New
/-! the rest of a body: it ends, with what Q says of the value, the heap and the written places -/
section Own
variable {p : Program} {l : Launch} {e : Env} {R : Room} {s : State} {m : MethodId} {args : Array Value} {below : List Frame} {meth : Method} {c : Code} {T : State} {locs : List Loc} {cells slots : Nat} {k n : Nat} {Q : Option Value → Heap → List Loc → Prop} {Z : State} {a0 : Array Value} {h : Heap}
def OEnds (p : Program) (e : Env) (below : List Frame) (s : State) (k n : Nat) (Q : Option Value → Heap → List Loc → Prop) (A : State) : Prop :=
  ∃ s₂ o, Steps p.tables e below A s₂ ∧ s₂.status = .running ∧ Ended s₂ below o ∧ ∃ v L, o = .returned v ∧ Q v s₂.heap L ∧ FrameEnd s o s₂ L k n
theorem OEnds.pre {A B : State} (h : ∀ t, Steps p.tables e below B t → Steps p.tables e below A t) (hB : OEnds p e below s k n Q B) : OEnds p e below s k n Q A := by
  obtain ⟨s₂, o, h1, h2⟩ := hB
  exact ⟨s₂, o, h _ h1, h2⟩
theorem OEnds.int (X : Stand p l e R s m args below meth c T locs cells slots) (hx : p.tables.exec = Jvm.exec) (hlocks : meth.locks = false) (hret : meth.sig.returnType = some .int) {pc : Nat} {Ls : Array Slot} {z : Int32} {rest : List Value} (hd : decode c.code pc = .ok (.ireturn, 1)) (hk : cells ≤ k) (hn : slots ≤ n)
    (hQ : Q (some (.int z)) T.heap locs) : OEnds p e below s k n Q (T.setTop (mkF m pc Ls (.int z :: rest))) := by
  obtain ⟨fs, hr, hrun, hended, hW, hsame⟩ := X.leave (v := some (.int z)) (fun h => by rw [hret] at h; cases h) hlocks
  exact ⟨_, _, retI X hx hret hd hr, hrun, hended, _, _, rfl, hQ, ⟨_, rfl⟩, hW, hsame.mono hk hn⟩
theorem OEnds.nrw {ty : FieldType} (X : Stand p l e R s m args below meth c T locs cells slots) (hx : p.tables.exec = Jvm.exec) (hlocks : meth.locks = false) (hret : meth.sig.returnType = some ty) (ht : ty = .boolean ∨ ty = .byte ∨ ty = .char ∨ ty = .short) {pc : Nat} {Ls : Array Slot} {z : Int32} {rest : List Value} (hd : decode c.code pc = .ok (.ireturn, 1)) (hk : cells ≤ k) (hn : slots ≤ n)
    (hQ : Q (some (.int (nar ty z))) T.heap locs) : OEnds p e below s k n Q (T.setTop (mkF m pc Ls (.int z :: rest))) := by
  obtain ⟨fs, hr, hrun, hended, hW, hsame⟩ := X.leave (v := some (.int (nar ty z))) (fun h => by rw [hret] at h; cases h) hlocks
  exact ⟨_, _, retN X hx hret ht hd hr, hrun, hended, _, _, rfl, hQ, ⟨_, rfl⟩, hW, hsame.mono hk hn⟩
theorem OEnds.long (X : Stand p l e R s m args below meth c T locs cells slots) (hx : p.tables.exec = Jvm.exec) (hlocks : meth.locks = false) (hret : meth.sig.returnType = some .long) {pc : Nat} {Ls : Array Slot} {z : Int64} (hd : decode c.code pc = .ok (.lreturn, 1)) (hk : cells ≤ k) (hn : slots ≤ n)
    (hQ : Q (some (.long z)) T.heap locs) : OEnds p e below s k n Q (T.setTop (mkF m pc Ls [.long z])) := by
  obtain ⟨fs, hr, hrun, hended, hW, hsame⟩ := X.leave (v := some (.long z)) (fun h => by rw [hret] at h; cases h) hlocks
  exact ⟨_, _, X.lreturnOut hx hret hd hr, hrun, hended, _, _, rfl, hQ, ⟨_, rfl⟩, hW, hsame.mono hk hn⟩
/-- a static call of a method that writes nothing, by its contract -/
theorem callPure (X : Stand p l e R s m args below meth c T locs cells slots) (hx : p.tables.exec = Jvm.exec) (hZ : Z.Warmed39 s.vm) {own : String} {index : Nat} {y : MethodName} {bytes : ByteArray} {maxL : Nat} {ret : Option FieldType} {rm : Room} {as' : Array Value} {v : Value} {W : Nat}
    (hown : s.vm.findClass own = some m.cls) (w1 : (Cond.methodLink own index y).before a0 Z = true) (w2 : (Cond.static y).before a0 Z = true) (w3 : (Cond.initialized y.cls).before a0 Z = true) (w4 : (Cond.code y bytes maxL ret).before a0 Z = true) (hy : y.cls ≠ "java/lang/invoke/MethodHandle" ∧ y.cls ≠ "java/lang/invoke/VarHandle")
    (eT : T.heap = h)
    (hM : MetFree l y (head1 [Cond.code y bytes maxL ret] rm) (fun a U => a = as' ∧ Z.Warmed39 U.vm ∧ U.heap = h) (fun _ _ _ _ _ => True) (fun _ U o U' => ∃ v' L, o = .returned v' ∧ (v' = some v ∧ L = [] ∧ U'.heap = h) ∧ FrameEnd U o U' L rm.cells rm.slots))
    (hc0 : rm.cells = 0) (hs0 : rm.slots = 0) (hf : rm.frames + 1 ≤ R.frames) (hl : W + (maxL + 11) + rm.locals ≤ R.locals)
    {pc : Nat} {Ls : Array Slot} {argsL rest : List Value} (hsize : Ls.size = c.maxLocals) (hlen : ∀ sig, parseMethodDescriptor y.desc = some sig → argsL.length = sig.parameters.length) (has : argsL.toArray = as') (hW : (rest.map fun v => v.category).sum ≤ W)
    (hd : decode c.code pc = .ok (.invokestatic index, 3)) (hcells : cells ≤ R.cells) (hslots : slots ≤ R.slots) :
    ∃ T', Stand p l e R s m args below meth c T' locs cells slots ∧ T'.heap = h ∧
      ∀ target, Steps p.tables e below (T'.setTop (mkF m (pc + 3) Ls (v :: rest))) target → Steps p.tables e below (T.setTop (mkF m pc Ls (argsL.reverse ++ rest))) target := by
  obtain ⟨v', vm₁, ⟨T1, L1, k1, n1⟩, -, X1, ⟨Lc, ⟨e1, e2, e3⟩, l1, y1, z1⟩, st⟩ := Jvm.LawKit.callS X hx (y := y) hown (mvT hZ w1) (mvT hZ w2) (mvT hZ w3) (mvT hZ w4) hy
    (backOf (W := W) (Q := fun v' h' L => v' = some v ∧ L = [] ∧ h' = h) hM hZ w4 w3 hf hl) (g := mkF m pc Ls (argsL.reverse ++ rest)) rfl hsize (argsL := argsL) (rest := rest) hlen rfl
    (by show 2 * 0 + _ ≤ _; rw [Nat.mul_zero, Nat.zero_add]; exact hW) hd (fun _ _ => ⟨has, eT, by rw [hc0]; exact hcells, by rw [hs0]; exact hslots⟩)
  dsimp only [Pt.U, Pt.locs, Pt.cells, Pt.slots] at X1 l1 y1 z1 st e3
  subst l1 y1 z1 e1 e2
  rw [hc0, hs0, List.append_nil, Nat.add_zero, Nat.add_zero] at X1
  exact ⟨T1, X1, e3, st⟩
end Own
end Jvm.RoadKit
namespace Jvm.Own
open Jvm.RoadKit Jvm.Free
theorem nat_or32 (n : Nat) : n ||| 32 = if n / 32 % 2 = 0 then n + 32 else n := by
  have h1 : (n ||| 32) / 64 = n / 64 := by
    have := Nat.or_div_two_pow (a := n) (b := 32) (n := 6)
    simpa using this
  have h2 : (n ||| 32) % 64 = (n % 64) ||| 32 := by
    have := Nat.or_mod_two_pow (a := n) (b := 32) (n := 6)
    simpa using this
  have h3 : ∀ r < 64, r ||| 32 = if r / 32 % 2 = 0 then r + 32 else r := by decide
  have h4 := h3 (n % 64) (Nat.mod_lt _ (by decide))
  rw [h4] at h2
  split at h2 <;> split <;> omega
theorem toInt_nat (u : Int32) : u.toInt = if u.toBitVec.toNat < 2 ^ 31 then (u.toBitVec.toNat : Int) else (u.toBitVec.toNat : Int) - 2 ^ 32 := by
  have : u.toInt = u.toBitVec.toInt := rfl
  rw [this, BitVec.toInt_eq_toNat_cond]
  split <;> split <;> omega
theorem or32 (u : Int32) : (u ||| 32).toInt = if u.toInt / 32 % 2 = 0 then u.toInt + 32 else u.toInt := by
  have e : (u ||| 32).toBitVec.toNat = u.toBitVec.toNat ||| 32 := by simp [Int32.toBitVec_or, BitVec.toNat_or]
  have hb := u.toBitVec.isLt
  rw [toInt_nat, toInt_nat u, e, nat_or32]
  repeat' split
  all_goals omega
theorem i64_nat (u : Int64) : u.toInt = if u.toBitVec.toNat < 2 ^ 63 then (u.toBitVec.toNat : Int) else (u.toBitVec.toNat : Int) - 2 ^ 64 := by
  have : u.toInt = u.toBitVec.toInt := rfl
  rw [this, BitVec.toInt_eq_toNat_cond]
  split <;> split <;> omega
theorem or_neg64 (x y : Int64) : (x ||| y) < 0 ↔ x < 0 ∨ y < 0 := by
  have h : ∀ z : Int64, z < 0 ↔ z.toBitVec.msb = true := fun z => by
    rw [Int64.lt_iff_toInt_lt, Int64.toInt_zero]
    show z.toBitVec.toInt < 0 ↔ _
    rw [BitVec.toInt_neg_iff, BitVec.msb_eq_decide]; simp; omega
  simp [h, Int64.toBitVec_or, BitVec.msb_or]
theorem ushr_le (x : Int64) (y : Int32) : (XT.ushrL x y).toBitVec.toNat ≤ x.toBitVec.toNat := by
  simp only [XT.ushrL, UInt64.toBitVec_toInt64, UInt64.toBitVec_shiftRight, Int64.toBitVec_toUInt64]
  rw [BitVec.ushiftRight_eq', BitVec.toNat_ushiftRight, Nat.shiftRight_eq_div_pow]
  exact Nat.div_le_self _ _
theorem ushr_nonneg (x : Int64) (y : Int32) (h : 0 ≤ x.toInt) : 0 ≤ (XT.ushrL x y).toInt := by
  have h1 := ushr_le x y
  rw [i64_nat] at *
  have := x.toBitVec.isLt
  have := (XT.ushrL x y).toBitVec.isLt
  split at h <;> split <;> omega
theorem ushr44 (x : Int64) : 0 ≤ (XT.ushrL x 44).toInt ∧ (XT.ushrL x 44).toInt < 2 ^ 20 := by
  have e : (XT.ushrL x 44).toBitVec.toNat = x.toBitVec.toNat / 2 ^ 44 := by
    simp only [XT.ushrL, UInt64.toBitVec_toInt64, UInt64.toBitVec_shiftRight, Int64.toBitVec_toUInt64]
    rw [BitVec.ushiftRight_eq', BitVec.toNat_ushiftRight, Nat.shiftRight_eq_div_pow]
    rfl
  have := x.toBitVec.isLt
  rw [i64_nat, e]
  split <;> omega
theorem narc_toInt (x : Int32) : (nar .char x).toInt = x.toInt % 65536 := by
  have e : (nar .char x).toBitVec.toNat = x.toBitVec.toNat % 65536 := by
    show x.toUInt32.toUInt16.toUInt32.toInt32.toBitVec.toNat = _
    simp
  rw [toInt_nat, e, toInt_nat x]
  have := x.toBitVec.isLt
  repeat' split
  all_goals omega
theorem and_max64 (x : Int64) : 0 ≤ (x &&& 9223372036854775807).toInt := by
  have e : (x &&& 9223372036854775807).toBitVec.toNat = x.toBitVec.toNat &&& 9223372036854775807 := by simp [Int64.toBitVec_and, BitVec.toNat_and]
  have h : x.toBitVec.toNat &&& 9223372036854775807 ≤ 9223372036854775807 := Nat.and_le_right
  rw [i64_nat, e]
  split <;> omega
theorem and_max32 (x : Int32) : 0 ≤ (x &&& 2147483647).toInt := by
  have e : (x &&& 2147483647).toBitVec.toNat = x.toBitVec.toNat &&& 2147483647 := by simp [Int32.toBitVec_and, BitVec.toNat_and]
  have h : x.toBitVec.toNat &&& 2147483647 ≤ 2147483647 := Nat.and_le_right
  rw [toInt_nat, e]
  split <;> omega
theorem bv_toInt (b : BitVec 64) (k : Nat) (hb : b.toNat = k) (hk : k < 64) : b.toInt = k := by
  rw [BitVec.toInt_eq_toNat_of_lt (by omega), hb]
theorem bv_smod (b : BitVec 64) (k : Nat) (hb : b.toNat = k) (hk : k < 64) : (b.smod 64).toNat = k := by
  have h1 := bv_toInt b k hb hk
  have e : b.smod 64 = BitVec.ofNat 64 k := by
    apply BitVec.eq_of_toInt_eq
    rw [bv_toInt (BitVec.ofNat 64 k) k (by simp; omega) hk, BitVec.toInt_smod, h1, show (64 : BitVec 64).toInt = 64 from by decide, Int.fmod_eq_emod_of_nonneg _ (by omega)]; omega
  rw [e]; simp; omega
theorem and63 (y : Int64) : (y &&& 63).toBitVec.toNat = y.toBitVec.toNat % 64 := by
  rw [Int64.toBitVec_and, BitVec.toNat_and]
  have : (63 : Int64).toBitVec.toNat = 2 ^ 6 - 1 := rfl
  rw [this, Nat.and_two_pow_sub_one_eq_mod]
theorem shl_bv (x y : Int64) (k : Nat) (hy : y.toBitVec.toNat % 64 = k) : (x <<< (y &&& 63)).toBitVec = x.toBitVec <<< k := by
  have : (x <<< (y &&& 63)).toBitVec = x.toBitVec <<< ((y &&& 63).toBitVec.smod 64) := rfl
  rw [this, BitVec.shiftLeft_eq', bv_smod _ k (by rw [and63, hy]) (by omega)]
theorem neg_msb (z : Int64) : z < 0 ↔ z.toBitVec.msb = true := by
  rw [Int64.lt_iff_toInt_lt, Int64.toInt_zero]
  show z.toBitVec.toInt < 0 ↔ _
  rw [BitVec.toInt_neg_iff, BitVec.msb_eq_decide]; simp; omega
theorem shl_neg (x y : Int64) (k : Nat) (hk : k < 64) (hy : y.toBitVec.toNat % 64 = 63 - k) : (x <<< (y &&& 63)) < 0 ↔ x.toBitVec.getLsbD k = true := by
  rw [neg_msb, shl_bv x y (63 - k) hy, BitVec.msb_eq_getLsbD_last, BitVec.getLsbD_shiftLeft]
  have e : 63 - (63 - k) = k := by omega
  simp [e]
theorem mask_zero (x y : Int64) (k : Nat) (hy : y.toBitVec.toNat % 64 = k) : (x &&& ((1 : Int64) <<< (y &&& 63))) = 0 ↔ x.toBitVec.getLsbD k = false := by
  have hk : k < 64 := by omega
  rw [← Int64.toBitVec_inj, Int64.toBitVec_and, shl_bv _ _ k hy]
  constructor
  · intro h
    have := congrArg (fun z : BitVec 64 => z.getLsbD k) h
    simp [hk] at this
    exact this
  · intro h
    apply BitVec.eq_of_getLsbD_eq
    intro i hi
    simp only [BitVec.getLsbD_and, BitVec.getLsbD_shiftLeft, Int64.toBitVec_zero, BitVec.getLsbD_zero]
    show (x.toBitVec.getLsbD i && (decide (i < 64) && !decide (i < k) && (1#64).getLsbD (i - k))) = false
    by_cases q : i = k
    · subst q; simp [h]
    · by_cases q2 : i < k
      · simp [q2]
      · have : (1#64).getLsbD (i - k) = false := by
          rw [BitVec.getLsbD_one]; simp; omega
        simp [this]
theorem ushrL_bv (x : Int64) (y : Int32) (k : Nat) (hy : y.toInt64.toBitVec.toNat % 64 = k) : (XT.ushrL x y).toBitVec = x.toBitVec >>> k := by
  have e : (XT.ushrL x y).toBitVec = x.toBitVec >>> ((y.toInt64.toBitVec &&& 63) % 64) := by
    simp [XT.ushrL]
  rw [e, BitVec.ushiftRight_eq']
  congr 1
  have := and63 y.toInt64
  rw [Int64.toBitVec_and] at this
  have h2 : ((y.toInt64.toBitVec &&& 63) % 64).toNat = (y.toInt64.toBitVec &&& 63).toNat % 64 := by simp [BitVec.toNat_umod]
  rw [h2]
  have h3 : (y.toInt64.toBitVec &&& 63).toNat = y.toInt64.toBitVec.toNat % 64 := this
  rw [h3]; omega
end Jvm.Own
namespace Jvm.Pilot.@@N@@
open Jvm Jvm.ClassFile Sem Op Lib Jvm.Free Jvm.Stand Jvm.LawKit Jvm.RoadKit Bundle Jvm.Pilot.@@N@@.Jvm.D
open Jvm.Own
open Jvm.Kit (i64_add i64_sub i64_mul i64_div i32_mask i64_mask)
theorem d2_0 : decode jdk_29_method_70_code 0 = .ok (.lload_n 0, 1) := by decide +kernel
theorem d2_1 : decode jdk_29_method_70_code 1 = .ok (.lload_n 2, 1) := by decide +kernel
theorem d2_2 : decode jdk_29_method_70_code 2 = .ok (.lcmp, 1) := by decide +kernel
theorem d2_3 : decode jdk_29_method_70_code 3 = .ok (.ifCond .gt 7, 3) := by decide +kernel
theorem d2_6 : decode jdk_29_method_70_code 6 = .ok (.lload_n 0, 1) := by decide +kernel
theorem d2_7 : decode jdk_29_method_70_code 7 = .ok (.goto 4, 3) := by decide +kernel
theorem d2_10 : decode jdk_29_method_70_code 10 = .ok (.lload_n 2, 1) := by decide +kernel
theorem d2_11 : decode jdk_29_method_70_code 11 = .ok (.lreturn, 1) := by decide +kernel
theorem pn_2 : plainFor (⟨"java/lang/Math", "min", "(JJ)J"⟩ : MethodName) = true := Jvm.Free.JP.mathPlain rfl (by decide +kernel)
theorem pd_2 : parseMethodDescriptor "(JJ)J" = some ⟨[.long, .long], some .long⟩ := by decide +kernel
theorem ef_2 (m : MethodId) (u0 : Int64) (u1 : Int64) : entryFrame m #[(.long u0), (.long u1)] 4 = mkF m 0 #[.val (.long u0), .second, .val (.long u1), .second] [] := by first | rfl | (simp [entryFrame, mkF, argsToLocals, Value.category]; done)
def f2 (u0 : Int64) (u1 : Int64) : Int64 := (if u1 < u0 then u1 else u0)
set_option maxRecDepth 65536 in
set_option maxHeartbeats 40000000 in
theorem met2 (l : Launch) (Z : State) (a0 : Array Value) (hw : ∀ d ∈ tables_1, d.before a0 Z = true) (ws : List Jvm.Cond) (u0 : Int64) (u1 : Int64) (h0 : Heap) :
    MetFree l (⟨"java/lang/Math", "min", "(JJ)J"⟩ : MethodName) (head1 (Jvm.Cond.code (⟨"java/lang/Math", "min", "(JJ)J"⟩ : MethodName) jdk_29_method_70_code 4 (some .long) :: ws) ({ frames := 0, cells := 0, slots := 0, locals := 0 } : Room)) (fun a U => a = #[(.long u0), (.long u1)] ∧ Z.Warmed39 U.vm ∧ U.heap = h0) (fun _ _ _ _ _ => True) (fun _ U o U' => ∃ v L, o = .returned v ∧ (v = some (.long (f2 u0 u1)) ∧ L = [] ∧ U'.heap = h0) ∧ FrameEnd U o U' L ({ frames := 0, cells := 0, slots := 0, locals := 0 } : Room).cells ({ frames := 0, cells := 0, slots := 0, locals := 0 } : Room).slots) := by
  refine MetFree.of_bodySF pn_2 hisR ?_
  intro p e s m args below meth c s₁ Bd hml0 hP hK
  obtain ⟨rfl, hZ, hh⟩ := hP
  have hx := Bd.exec
  have hby := Bd.bytes
  have hml : c.maxLocals = 4 := hml0
  have hown : s.vm.findClass "java/lang/Math" = some m.cls := findClass_of_methodNamed Bd.named
  have X0 : Stand p l e ({ frames := 0, cells := 0, slots := 0, locals := 0 } : Room) s m #[(.long u0), (.long u1)] below meth c s₁ [] 0 0 := Stand.of_body Bd
  have e0 : s₁.heap = h0 := by rw [← hh, Bd.state]; rfl
  show OEnds p e below s _ _ (fun v h L => v = some (.long (f2 u0 u1)) ∧ L = [] ∧ h = h0) _
  refine OEnds.pre (fun t k => castTop (ef_2 m u0 u1) k) ?_
  show OEnds p e below s _ _ _ (s₁.setTop (mkF m 0 #[.val (.long u0), .second, .val (.long u1), .second] []))
  refine OEnds.pre (fun t k => XT.lloadN X0.here hx rfl (hb hby d2_0) rfl k) ?_
  show OEnds p e below s _ _ _ (s₁.setTop (mkF m 1 #[.val (.long u0), .second, .val (.long u1), .second] [(.long u0)]))
  refine OEnds.pre (fun t k => XT.lloadN X0.here hx rfl (hb hby d2_1) rfl k) ?_
  show OEnds p e below s _ _ _ (s₁.setTop (mkF m 2 #[.val (.long u0), .second, .val (.long u1), .second] [(.long u1), (.long u0)]))
  refine OEnds.pre (fun t k => XT.lcmp X0.here hx rfl (hb hby d2_2) rfl k) ?_
  show OEnds p e below s _ _ _ (s₁.setTop (mkF m 3 #[.val (.long u0), .second, .val (.long u1), .second] [(.int (XT.cmpL u0 u1))]))
  by_cases c1 : u1 < u0
  · refine OEnds.pre (fun t k => XS.ifYes X0.here hx rfl (pc0 := 3) (pc' := 10) rfl (hb hby d2_3) rfl (XT.ll_gt_t c1) (by decide) (by decide) k) ?_
    show OEnds p e below s _ _ _ (s₁.setTop (mkF m 10 #[.val (.long u0), .second, .val (.long u1), .second] []))
    refine OEnds.pre (fun t k => XT.lloadN X0.here hx rfl (hb hby d2_10) rfl k) ?_
    show OEnds p e below s _ _ _ (s₁.setTop (mkF m 11 #[.val (.long u0), .second, .val (.long u1), .second] [(.long u1)]))
    exact OEnds.long X0 hx Bd.notSynchronized Bd.returns (hb hby d2_11) (Nat.zero_le _) (Nat.zero_le _) ⟨congrArg (fun q => some (Value.long q)) (by unfold f2; rw [if_pos c1]), rfl, e0⟩
  · refine OEnds.pre (fun t k => XS.ifNo X0.here hx rfl (hb hby d2_3) rfl (XT.ll_gt_f c1) k) ?_
    show OEnds p e below s _ _ _ (s₁.setTop (mkF m 6 #[.val (.long u0), .second, .val (.long u1), .second] []))
    refine OEnds.pre (fun t k => XT.lloadN X0.here hx rfl (hb hby d2_6) rfl k) ?_
    show OEnds p e below s _ _ _ (s₁.setTop (mkF m 7 #[.val (.long u0), .second, .val (.long u1), .second] [(.long u0)]))
    refine OEnds.pre (fun t k => XS.goto X0.here hx rfl (pc0 := 7) (pc' := 11) rfl (hb hby d2_7) (by decide) (by decide) k) ?_
    show OEnds p e below s _ _ _ (s₁.setTop (mkF m 11 #[.val (.long u0), .second, .val (.long u1), .second] [(.long u0)]))
    exact OEnds.long X0 hx Bd.notSynchronized Bd.returns (hb hby d2_11) (Nat.zero_le _) (Nat.zero_le _) ⟨congrArg (fun q => some (Value.long q)) (by unfold f2; rw [if_neg c1]), rfl, e0⟩
theorem d1_0 : decode method_2_code 0 = .ok (.lload_n 0, 1) := by decide +kernel
theorem d1_1 : decode method_2_code 1 = .ok (.ldc2_w 9, 3) := by decide +kernel
theorem d1_4 : decode method_2_code 4 = .ok (.land, 1) := by decide +kernel
theorem d1_5 : decode method_2_code 5 = .ok (.ldc2_w 13, 3) := by decide +kernel
theorem d1_8 : decode method_2_code 8 = .ok (.invokestatic 15, 3) := by decide +kernel
theorem d1_11 : decode method_2_code 11 = .ok (.lreturn, 1) := by decide +kernel
theorem pn_1 : plainFor (⟨"com/example/equisetum/equisetum/DerivationsSumPinLaw", "toLength", "(J)J"⟩ : MethodName) = true := by first | exact plainFor_of_name (by first | (simp [plainName, overriddenIn]; done) | decide +kernel) | decide +kernel
theorem pd_1 : parseMethodDescriptor "(J)J" = some ⟨[.long], some .long⟩ := by decide +kernel
theorem ef_1 (m : MethodId) (u0 : Int64) : entryFrame m #[(.long u0)] 2 = mkF m 0 #[.val (.long u0), .second] [] := by first | rfl | (simp [entryFrame, mkF, argsToLocals, Value.category]; done)
def f1 (u0 : Int64) : Int64 := (f2 (u0 &&& (9223372036854775807 : Int64)) (9223372036854775806 : Int64))
set_option maxRecDepth 65536 in
set_option maxHeartbeats 40000000 in
theorem met1 (l : Launch) (Z : State) (a0 : Array Value) (hw : ∀ d ∈ tables_1, d.before a0 Z = true) (ws : List Jvm.Cond) (u0 : Int64) (h0 : Heap) :
    MetFree l (⟨"com/example/equisetum/equisetum/DerivationsSumPinLaw", "toLength", "(J)J"⟩ : MethodName) (head1 (Jvm.Cond.code (⟨"com/example/equisetum/equisetum/DerivationsSumPinLaw", "toLength", "(J)J"⟩ : MethodName) method_2_code 2 (some .long) :: ws) ({ frames := 1, cells := 0, slots := 0, locals := 15 } : Room)) (fun a U => a = #[(.long u0)] ∧ Z.Warmed39 U.vm ∧ U.heap = h0) (fun _ _ _ _ _ => True) (fun _ U o U' => ∃ v L, o = .returned v ∧ (v = some (.long (f1 u0)) ∧ L = [] ∧ U'.heap = h0) ∧ FrameEnd U o U' L ({ frames := 1, cells := 0, slots := 0, locals := 15 } : Room).cells ({ frames := 1, cells := 0, slots := 0, locals := 15 } : Room).slots) := by
  refine MetFree.of_bodySF pn_1 hisR ?_
  intro p e s m args below meth c s₁ Bd hml0 hP hK
  obtain ⟨rfl, hZ, hh⟩ := hP
  have hx := Bd.exec
  have hby := Bd.bytes
  have hml : c.maxLocals = 2 := hml0
  have hown : s.vm.findClass "com/example/equisetum/equisetum/DerivationsSumPinLaw" = some m.cls := findClass_of_methodNamed Bd.named
  have X0 : Stand p l e ({ frames := 1, cells := 0, slots := 0, locals := 15 } : Room) s m #[(.long u0)] below meth c s₁ [] 0 0 := Stand.of_body Bd
  have e0 : s₁.heap = h0 := by rw [← hh, Bd.state]; rfl
  show OEnds p e below s _ _ (fun v h L => v = some (.long (f1 u0)) ∧ L = [] ∧ h = h0) _
  refine OEnds.pre (fun t k => castTop (ef_1 m u0) k) ?_
  show OEnds p e below s _ _ _ (s₁.setTop (mkF m 0 #[.val (.long u0), .second] []))
  refine OEnds.pre (fun t k => XT.lloadN X0.here hx rfl (hb hby d1_0) rfl k) ?_
  show OEnds p e below s _ _ _ (s₁.setTop (mkF m 1 #[.val (.long u0), .second] [(.long u0)]))
  refine OEnds.pre (fun t k => Jvm.Stand.ldc2J X0 hx hown (mvT hZ (hw _ (List.mem_of_getElem? (i := 5) rfl))) rfl (hb hby d1_1) k) ?_
  show OEnds p e below s _ _ _ (s₁.setTop (mkF m 4 #[.val (.long u0), .second] [(.long (9223372036854775807 : Int64)), (.long u0)]))
  refine OEnds.pre (fun t k => XT.land X0.here hx rfl (hb hby d1_4) rfl k) ?_
  show OEnds p e below s _ _ _ (s₁.setTop (mkF m 5 #[.val (.long u0), .second] [(.long (u0 &&& (9223372036854775807 : Int64)))]))
  refine OEnds.pre (fun t k => Jvm.Stand.ldc2J X0 hx hown (mvT hZ (hw _ (List.mem_of_getElem? (i := 0) rfl))) rfl (hb hby d1_5) k) ?_
  show OEnds p e below s _ _ _ (s₁.setTop (mkF m 8 #[.val (.long u0), .second] [(.long (9223372036854775806 : Int64)), (.long (u0 &&& (9223372036854775807 : Int64)))]))
  obtain ⟨T1, X1, e1, st1⟩ := callPure X0 hx hZ (y := (⟨"java/lang/Math", "min", "(JJ)J"⟩ : MethodName)) (v := (.long (f2 (u0 &&& (9223372036854775807 : Int64)) (9223372036854775806 : Int64)))) (W := 0) hown (hw _ (List.mem_of_getElem? (i := 6) rfl)) (hw _ (List.mem_of_getElem? (i := 7) rfl)) (hw _ (List.mem_of_getElem? (i := 8) rfl)) (hw _ (List.mem_of_getElem? (i := 9) rfl)) (by decide) e0 (met2 l Z a0 hw [] (u0 &&& (9223372036854775807 : Int64)) (9223372036854775806 : Int64) h0) rfl rfl (by decide) (by decide) (pc := 8) (Ls := #[.val (.long u0), .second]) (argsL := [(.long (u0 &&& (9223372036854775807 : Int64))), (.long (9223372036854775806 : Int64))]) (rest := []) (by rw [hml]; rfl) (lenOf pd_2 rfl) rfl (Nat.le_of_eq rfl) (hb hby d1_8) (by decide) (by decide)
  refine OEnds.pre (fun t k => st1 _ k) ?_
  show OEnds p e below s _ _ _ (T1.setTop (mkF m 11 #[.val (.long u0), .second] [(.long (f2 (u0 &&& (9223372036854775807 : Int64)) (9223372036854775806 : Int64)))]))
  exact OEnds.long X1 hx Bd.notSynchronized Bd.returns (hb hby d1_11) (Nat.zero_le _) (Nat.zero_le _) ⟨congrArg (fun q => some (Value.long q)) (by unfold f1; rfl), rfl, e1⟩
theorem d4_0 : decode jdk_29_method_66_code 0 = .ok (.lload_n 0, 1) := by decide +kernel
theorem d4_1 : decode jdk_29_method_66_code 1 = .ok (.lload_n 2, 1) := by decide +kernel
theorem d4_2 : decode jdk_29_method_66_code 2 = .ok (.lcmp, 1) := by decide +kernel
theorem d4_3 : decode jdk_29_method_66_code 3 = .ok (.ifCond .lt 7, 3) := by decide +kernel
theorem d4_6 : decode jdk_29_method_66_code 6 = .ok (.lload_n 0, 1) := by decide +kernel
theorem d4_7 : decode jdk_29_method_66_code 7 = .ok (.goto 4, 3) := by decide +kernel
theorem d4_10 : decode jdk_29_method_66_code 10 = .ok (.lload_n 2, 1) := by decide +kernel
theorem d4_11 : decode jdk_29_method_66_code 11 = .ok (.lreturn, 1) := by decide +kernel
theorem pn_4 : plainFor (⟨"java/lang/Math", "max", "(JJ)J"⟩ : MethodName) = true := Jvm.Free.JP.mathPlain rfl (by decide +kernel)
theorem pd_4 : parseMethodDescriptor "(JJ)J" = some ⟨[.long, .long], some .long⟩ := by decide +kernel
theorem ef_4 (m : MethodId) (u0 : Int64) (u1 : Int64) : entryFrame m #[(.long u0), (.long u1)] 4 = mkF m 0 #[.val (.long u0), .second, .val (.long u1), .second] [] := by first | rfl | (simp [entryFrame, mkF, argsToLocals, Value.category]; done)
def f4 (u0 : Int64) (u1 : Int64) : Int64 := (if u0 < u1 then u1 else u0)
set_option maxRecDepth 65536 in
set_option maxHeartbeats 40000000 in
theorem met4 (l : Launch) (Z : State) (a0 : Array Value) (hw : ∀ d ∈ tables_1, d.before a0 Z = true) (ws : List Jvm.Cond) (u0 : Int64) (u1 : Int64) (h0 : Heap) :
    MetFree l (⟨"java/lang/Math", "max", "(JJ)J"⟩ : MethodName) (head1 (Jvm.Cond.code (⟨"java/lang/Math", "max", "(JJ)J"⟩ : MethodName) jdk_29_method_66_code 4 (some .long) :: ws) ({ frames := 0, cells := 0, slots := 0, locals := 0 } : Room)) (fun a U => a = #[(.long u0), (.long u1)] ∧ Z.Warmed39 U.vm ∧ U.heap = h0) (fun _ _ _ _ _ => True) (fun _ U o U' => ∃ v L, o = .returned v ∧ (v = some (.long (f4 u0 u1)) ∧ L = [] ∧ U'.heap = h0) ∧ FrameEnd U o U' L ({ frames := 0, cells := 0, slots := 0, locals := 0 } : Room).cells ({ frames := 0, cells := 0, slots := 0, locals := 0 } : Room).slots) := by
  refine MetFree.of_bodySF pn_4 hisR ?_
  intro p e s m args below meth c s₁ Bd hml0 hP hK
  obtain ⟨rfl, hZ, hh⟩ := hP
  have hx := Bd.exec
  have hby := Bd.bytes
  have hml : c.maxLocals = 4 := hml0
  have hown : s.vm.findClass "java/lang/Math" = some m.cls := findClass_of_methodNamed Bd.named
  have X0 : Stand p l e ({ frames := 0, cells := 0, slots := 0, locals := 0 } : Room) s m #[(.long u0), (.long u1)] below meth c s₁ [] 0 0 := Stand.of_body Bd
  have e0 : s₁.heap = h0 := by rw [← hh, Bd.state]; rfl
  show OEnds p e below s _ _ (fun v h L => v = some (.long (f4 u0 u1)) ∧ L = [] ∧ h = h0) _
  refine OEnds.pre (fun t k => castTop (ef_4 m u0 u1) k) ?_
  show OEnds p e below s _ _ _ (s₁.setTop (mkF m 0 #[.val (.long u0), .second, .val (.long u1), .second] []))
  refine OEnds.pre (fun t k => XT.lloadN X0.here hx rfl (hb hby d4_0) rfl k) ?_
  show OEnds p e below s _ _ _ (s₁.setTop (mkF m 1 #[.val (.long u0), .second, .val (.long u1), .second] [(.long u0)]))
  refine OEnds.pre (fun t k => XT.lloadN X0.here hx rfl (hb hby d4_1) rfl k) ?_
  show OEnds p e below s _ _ _ (s₁.setTop (mkF m 2 #[.val (.long u0), .second, .val (.long u1), .second] [(.long u1), (.long u0)]))
  refine OEnds.pre (fun t k => XT.lcmp X0.here hx rfl (hb hby d4_2) rfl k) ?_
  show OEnds p e below s _ _ _ (s₁.setTop (mkF m 3 #[.val (.long u0), .second, .val (.long u1), .second] [(.int (XT.cmpL u0 u1))]))
  by_cases c1 : u0 < u1
  · refine OEnds.pre (fun t k => XS.ifYes X0.here hx rfl (pc0 := 3) (pc' := 10) rfl (hb hby d4_3) rfl (XT.ll_lt_t c1) (by decide) (by decide) k) ?_
    show OEnds p e below s _ _ _ (s₁.setTop (mkF m 10 #[.val (.long u0), .second, .val (.long u1), .second] []))
    refine OEnds.pre (fun t k => XT.lloadN X0.here hx rfl (hb hby d4_10) rfl k) ?_
    show OEnds p e below s _ _ _ (s₁.setTop (mkF m 11 #[.val (.long u0), .second, .val (.long u1), .second] [(.long u1)]))
    exact OEnds.long X0 hx Bd.notSynchronized Bd.returns (hb hby d4_11) (Nat.zero_le _) (Nat.zero_le _) ⟨congrArg (fun q => some (Value.long q)) (by unfold f4; rw [if_pos c1]), rfl, e0⟩
  · refine OEnds.pre (fun t k => XS.ifNo X0.here hx rfl (hb hby d4_3) rfl (XT.ll_lt_f c1) k) ?_
    show OEnds p e below s _ _ _ (s₁.setTop (mkF m 6 #[.val (.long u0), .second, .val (.long u1), .second] []))
    refine OEnds.pre (fun t k => XT.lloadN X0.here hx rfl (hb hby d4_6) rfl k) ?_
    show OEnds p e below s _ _ _ (s₁.setTop (mkF m 7 #[.val (.long u0), .second, .val (.long u1), .second] [(.long u0)]))
    refine OEnds.pre (fun t k => XS.goto X0.here hx rfl (pc0 := 7) (pc' := 11) rfl (hb hby d4_7) (by decide) (by decide) k) ?_
    show OEnds p e below s _ _ _ (s₁.setTop (mkF m 11 #[.val (.long u0), .second, .val (.long u1), .second] [(.long u0)]))
    exact OEnds.long X0 hx Bd.notSynchronized Bd.returns (hb hby d4_11) (Nat.zero_le _) (Nat.zero_le _) ⟨congrArg (fun q => some (Value.long q)) (by unfold f4; rw [if_neg c1]), rfl, e0⟩
theorem d3_0 : decode prog_11_method_21_code 0 = .ok (.lload_n 0, 1) := by decide +kernel
theorem d3_1 : decode prog_11_method_21_code 1 = .ok (.ldc2_w 126, 3) := by decide +kernel
theorem d3_4 : decode prog_11_method_21_code 4 = .ok (.lload_n 2, 1) := by decide +kernel
theorem d3_5 : decode prog_11_method_21_code 5 = .ok (.lsub, 1) := by decide +kernel
theorem d3_6 : decode prog_11_method_21_code 6 = .ok (.lcmp, 1) := by decide +kernel
theorem d3_7 : decode prog_11_method_21_code 7 = .ok (.ifCond .le 9, 3) := by decide +kernel
theorem d3_10 : decode prog_11_method_21_code 10 = .ok (.ldc2_w 126, 3) := by decide +kernel
theorem d3_13 : decode prog_11_method_21_code 13 = .ok (.goto 6, 3) := by decide +kernel
theorem d3_16 : decode prog_11_method_21_code 16 = .ok (.lload_n 0, 1) := by decide +kernel
theorem d3_17 : decode prog_11_method_21_code 17 = .ok (.lload_n 2, 1) := by decide +kernel
theorem d3_18 : decode prog_11_method_21_code 18 = .ok (.ladd, 1) := by decide +kernel
theorem d3_19 : decode prog_11_method_21_code 19 = .ok (.lreturn, 1) := by decide +kernel
theorem pn_3 : plainFor (⟨"com/example/equisetum/equisetum/Derivations", "sum", "(JJ)J"⟩ : MethodName) = true := by first | exact plainFor_of_name (by first | (simp [plainName, overriddenIn]; done) | decide +kernel) | decide +kernel
theorem pd_3 : parseMethodDescriptor "(JJ)J" = some ⟨[.long, .long], some .long⟩ := by decide +kernel
theorem ef_3 (m : MethodId) (u0 : Int64) (u1 : Int64) : entryFrame m #[(.long u0), (.long u1)] 4 = mkF m 0 #[.val (.long u0), .second, .val (.long u1), .second] [] := by first | rfl | (simp [entryFrame, mkF, argsToLocals, Value.category]; done)
def f3 (u0 : Int64) (u1 : Int64) : Int64 := (if ((9223372036854775806 : Int64) - u1) < u0 then (9223372036854775806 : Int64) else (u0 + u1))
set_option maxRecDepth 65536 in
set_option maxHeartbeats 40000000 in
theorem met3 (l : Launch) (Z : State) (a0 : Array Value) (hw : ∀ d ∈ tables_1, d.before a0 Z = true) (ws : List Jvm.Cond) (u0 : Int64) (u1 : Int64) (h0 : Heap) :
    MetFree l (⟨"com/example/equisetum/equisetum/Derivations", "sum", "(JJ)J"⟩ : MethodName) (head1 (Jvm.Cond.code (⟨"com/example/equisetum/equisetum/Derivations", "sum", "(JJ)J"⟩ : MethodName) prog_11_method_21_code 4 (some .long) :: ws) ({ frames := 0, cells := 0, slots := 0, locals := 0 } : Room)) (fun a U => a = #[(.long u0), (.long u1)] ∧ Z.Warmed39 U.vm ∧ U.heap = h0) (fun _ _ _ _ _ => True) (fun _ U o U' => ∃ v L, o = .returned v ∧ (v = some (.long (f3 u0 u1)) ∧ L = [] ∧ U'.heap = h0) ∧ FrameEnd U o U' L ({ frames := 0, cells := 0, slots := 0, locals := 0 } : Room).cells ({ frames := 0, cells := 0, slots := 0, locals := 0 } : Room).slots) := by
  refine MetFree.of_bodySF pn_3 hisR ?_
  intro p e s m args below meth c s₁ Bd hml0 hP hK
  obtain ⟨rfl, hZ, hh⟩ := hP
  have hx := Bd.exec
  have hby := Bd.bytes
  have hml : c.maxLocals = 4 := hml0
  have hown : s.vm.findClass "com/example/equisetum/equisetum/Derivations" = some m.cls := findClass_of_methodNamed Bd.named
  have X0 : Stand p l e ({ frames := 0, cells := 0, slots := 0, locals := 0 } : Room) s m #[(.long u0), (.long u1)] below meth c s₁ [] 0 0 := Stand.of_body Bd
  have e0 : s₁.heap = h0 := by rw [← hh, Bd.state]; rfl
  show OEnds p e below s _ _ (fun v h L => v = some (.long (f3 u0 u1)) ∧ L = [] ∧ h = h0) _
  refine OEnds.pre (fun t k => castTop (ef_3 m u0 u1) k) ?_
  show OEnds p e below s _ _ _ (s₁.setTop (mkF m 0 #[.val (.long u0), .second, .val (.long u1), .second] []))
  refine OEnds.pre (fun t k => XT.lloadN X0.here hx rfl (hb hby d3_0) rfl k) ?_
  show OEnds p e below s _ _ _ (s₁.setTop (mkF m 1 #[.val (.long u0), .second, .val (.long u1), .second] [(.long u0)]))
  refine OEnds.pre (fun t k => Jvm.Stand.ldc2J X0 hx hown (mvT hZ (hw _ (List.mem_of_getElem? (i := 14) rfl))) rfl (hb hby d3_1) k) ?_
  show OEnds p e below s _ _ _ (s₁.setTop (mkF m 4 #[.val (.long u0), .second, .val (.long u1), .second] [(.long (9223372036854775806 : Int64)), (.long u0)]))
  refine OEnds.pre (fun t k => XT.lloadN X0.here hx rfl (hb hby d3_4) rfl k) ?_
  show OEnds p e below s _ _ _ (s₁.setTop (mkF m 5 #[.val (.long u0), .second, .val (.long u1), .second] [(.long u1), (.long (9223372036854775806 : Int64)), (.long u0)]))
  refine OEnds.pre (fun t k => XT.lsub X0.here hx rfl (hb hby d3_5) rfl k) ?_
  show OEnds p e below s _ _ _ (s₁.setTop (mkF m 6 #[.val (.long u0), .second, .val (.long u1), .second] [(.long ((9223372036854775806 : Int64) - u1)), (.long u0)]))
  refine OEnds.pre (fun t k => XT.lcmp X0.here hx rfl (hb hby d3_6) rfl k) ?_
  show OEnds p e below s _ _ _ (s₁.setTop (mkF m 7 #[.val (.long u0), .second, .val (.long u1), .second] [(.int (XT.cmpL u0 ((9223372036854775806 : Int64) - u1)))]))
  by_cases c1 : ((9223372036854775806 : Int64) - u1) < u0
  · refine OEnds.pre (fun t k => XS.ifNo X0.here hx rfl (hb hby d3_7) rfl (XT.ll_le_f c1) k) ?_
    show OEnds p e below s _ _ _ (s₁.setTop (mkF m 10 #[.val (.long u0), .second, .val (.long u1), .second] []))
    refine OEnds.pre (fun t k => Jvm.Stand.ldc2J X0 hx hown (mvT hZ (hw _ (List.mem_of_getElem? (i := 14) rfl))) rfl (hb hby d3_10) k) ?_
    show OEnds p e below s _ _ _ (s₁.setTop (mkF m 13 #[.val (.long u0), .second, .val (.long u1), .second] [(.long (9223372036854775806 : Int64))]))
    refine OEnds.pre (fun t k => XS.goto X0.here hx rfl (pc0 := 13) (pc' := 19) rfl (hb hby d3_13) (by decide) (by decide) k) ?_
    show OEnds p e below s _ _ _ (s₁.setTop (mkF m 19 #[.val (.long u0), .second, .val (.long u1), .second] [(.long (9223372036854775806 : Int64))]))
    exact OEnds.long X0 hx Bd.notSynchronized Bd.returns (hb hby d3_19) (Nat.zero_le _) (Nat.zero_le _) ⟨congrArg (fun q => some (Value.long q)) (by unfold f3; rw [if_pos c1]), rfl, e0⟩
  · refine OEnds.pre (fun t k => XS.ifYes X0.here hx rfl (pc0 := 7) (pc' := 16) rfl (hb hby d3_7) rfl (XT.ll_le_t c1) (by decide) (by decide) k) ?_
    show OEnds p e below s _ _ _ (s₁.setTop (mkF m 16 #[.val (.long u0), .second, .val (.long u1), .second] []))
    refine OEnds.pre (fun t k => XT.lloadN X0.here hx rfl (hb hby d3_16) rfl k) ?_
    show OEnds p e below s _ _ _ (s₁.setTop (mkF m 17 #[.val (.long u0), .second, .val (.long u1), .second] [(.long u0)]))
    refine OEnds.pre (fun t k => XT.lloadN X0.here hx rfl (hb hby d3_17) rfl k) ?_
    show OEnds p e below s _ _ _ (s₁.setTop (mkF m 18 #[.val (.long u0), .second, .val (.long u1), .second] [(.long u1), (.long u0)]))
    refine OEnds.pre (fun t k => XT.ladd X0.here hx rfl (hb hby d3_18) rfl k) ?_
    show OEnds p e below s _ _ _ (s₁.setTop (mkF m 19 #[.val (.long u0), .second, .val (.long u1), .second] [(.long (u0 + u1))]))
    exact OEnds.long X0 hx Bd.notSynchronized Bd.returns (hb hby d3_19) (Nat.zero_le _) (Nat.zero_le _) ⟨congrArg (fun q => some (Value.long q)) (by unfold f3; rw [if_neg c1]), rfl, e0⟩
theorem pn_0 : plainFor x = true := by first | exact plainFor_of_name (by first | (simp [plainName, overriddenIn]; done) | decide +kernel) | decide +kernel
theorem pd_0 : parseMethodDescriptor "(JJI)Z" = some ⟨[.long, .long, .int], some .boolean⟩ := by decide +kernel
theorem ef_0 (m : MethodId) (u0 : Int64) (u1 : Int64) (u2 : Int32) : entryFrame m #[(.long u0), (.long u1), (.int u2)] maxLocals = mkF m 0 #[.val (.long u0), .second, .val (.long u1), .second, .val (.int u2), .unset, .unset, .unset, .unset, .unset, .unset, .unset, .unset, .unset, .unset] [] := by first | rfl | (simp [entryFrame, mkF, argsToLocals, Value.category, maxLocals]; done)
def f0 (u0 : Int64) (u1 : Int64) (u2 : Int32) : Int32 := (if (u2 &&& (1 : Int32)) = (0 : Int32) then (if ((f1 u0) + (f1 u1)) < (0 : Int64) then (if (f3 (f1 u0) (f1 u1)) = (9223372036854775806 : Int64) then (1 : Int32) else (0 : Int32)) else (if ((f1 u0) + (f1 u1)) < (9223372036854775806 : Int64) then (if (f3 (f1 u0) (f1 u1)) = ((f1 u0) + (f1 u1)) then (1 : Int32) else (0 : Int32)) else (if (f3 (f1 u0) (f1 u1)) = (9223372036854775806 : Int64) then (1 : Int32) else (0 : Int32)))) else (if ((f1 u0) + (f4 (0 : Int64) (f2 ((((9223372036854775806 : Int64) - (f1 u0)) + (Int32.toInt64 ((u2 >>> ((1 : Int32) &&& 31)) &&& (3 : Int32)))) - (2 : Int64)) (9223372036854775806 : Int64)))) < (0 : Int64) then (if (f3 (f1 u0) (f4 (0 : Int64) (f2 ((((9223372036854775806 : Int64) - (f1 u0)) + (Int32.toInt64 ((u2 >>> ((1 : Int32) &&& 31)) &&& (3 : Int32)))) - (2 : Int64)) (9223372036854775806 : Int64)))) = (9223372036854775806 : Int64) then (1 : Int32) else (0 : Int32)) else (if ((f1 u0) + (f4 (0 : Int64) (f2 ((((9223372036854775806 : Int64) - (f1 u0)) + (Int32.toInt64 ((u2 >>> ((1 : Int32) &&& 31)) &&& (3 : Int32)))) - (2 : Int64)) (9223372036854775806 : Int64)))) < (9223372036854775806 : Int64) then (if (f3 (f1 u0) (f4 (0 : Int64) (f2 ((((9223372036854775806 : Int64) - (f1 u0)) + (Int32.toInt64 ((u2 >>> ((1 : Int32) &&& 31)) &&& (3 : Int32)))) - (2 : Int64)) (9223372036854775806 : Int64)))) = ((f1 u0) + (f4 (0 : Int64) (f2 ((((9223372036854775806 : Int64) - (f1 u0)) + (Int32.toInt64 ((u2 >>> ((1 : Int32) &&& 31)) &&& (3 : Int32)))) - (2 : Int64)) (9223372036854775806 : Int64)))) then (1 : Int32) else (0 : Int32)) else (if (f3 (f1 u0) (f4 (0 : Int64) (f2 ((((9223372036854775806 : Int64) - (f1 u0)) + (Int32.toInt64 ((u2 >>> ((1 : Int32) &&& 31)) &&& (3 : Int32)))) - (2 : Int64)) (9223372036854775806 : Int64)))) = (9223372036854775806 : Int64) then (1 : Int32) else (0 : Int32)))))
set_option maxRecDepth 65536 in
set_option maxHeartbeats 40000000 in
theorem met0 (l : Launch) (Z : State) (a0 : Array Value) (hw : ∀ d ∈ tables_1, d.before a0 Z = true) (ws : List Jvm.Cond) (u0 : Int64) (u1 : Int64) (u2 : Int32) (h0 : Heap) :
    MetFree l x (head1 (Jvm.Cond.code x code maxLocals ret :: ws) room_1) (fun a U => a = #[(.long u0), (.long u1), (.int u2)] ∧ Z.Warmed39 U.vm ∧ U.heap = h0) (fun _ _ _ _ _ => True) (fun _ U o U' => ∃ v L, o = .returned v ∧ (v = some (.int (f0 u0 u1 u2)) ∧ L = [] ∧ U'.heap = h0) ∧ FrameEnd U o U' L room_1.cells room_1.slots) := by
  refine MetFree.of_bodySF pn_0 hisR ?_
  intro p e s m args below meth c s₁ Bd hml0 hP hK
  obtain ⟨rfl, hZ, hh⟩ := hP
  have hx := Bd.exec
  have hby := Bd.bytes
  have hml : c.maxLocals = 15 := hml0
  have hown : s.vm.findClass "com/example/equisetum/equisetum/DerivationsSumPinLaw" = some m.cls := findClass_of_methodNamed Bd.named
  have X0 : Stand p l e room_1 s m #[(.long u0), (.long u1), (.int u2)] below meth c s₁ [] 0 0 := Stand.of_body Bd
  have e0 : s₁.heap = h0 := by rw [← hh, Bd.state]; rfl
  show OEnds p e below s _ _ (fun v h L => v = some (.int (f0 u0 u1 u2)) ∧ L = [] ∧ h = h0) _
  refine OEnds.pre (fun t k => castTop (ef_0 m u0 u1 u2) k) ?_
  show OEnds p e below s _ _ _ (s₁.setTop (mkF m 0 #[.val (.long u0), .second, .val (.long u1), .second, .val (.int u2), .unset, .unset, .unset, .unset, .unset, .unset, .unset, .unset, .unset, .unset] []))
  refine OEnds.pre (fun t k => Jvm.Stand.ldc2J X0 hx hown (mvT hZ (hw _ (List.mem_of_getElem? (i := 0) rfl))) rfl (hb hby at_0) k) ?_
  show OEnds p e below s _ _ _ (s₁.setTop (mkF m 3 #[.val (.long u0), .second, .val (.long u1), .second, .val (.int u2), .unset, .unset, .unset, .unset, .unset, .unset, .unset, .unset, .unset, .unset] [(.long (9223372036854775806 : Int64))]))
  refine OEnds.pre (fun t k => XT.lstore X0.here hx rfl (hb hby at_3) rfl (l' := #[.val (.long u0), .second, .val (.long u1), .second, .val (.int u2), .val (.long (9223372036854775806 : Int64)), .second, .unset, .unset, .unset, .unset, .unset, .unset, .unset, .unset]) rfl k) ?_
  show OEnds p e below s _ _ _ (s₁.setTop (mkF m 5 #[.val (.long u0), .second, .val (.long u1), .second, .val (.int u2), .val (.long (9223372036854775806 : Int64)), .second, .unset, .unset, .unset, .unset, .unset, .unset, .unset, .unset] []))
  refine OEnds.pre (fun t k => XT.lloadN X0.here hx rfl (hb hby at_5) rfl k) ?_
  show OEnds p e below s _ _ _ (s₁.setTop (mkF m 6 #[.val (.long u0), .second, .val (.long u1), .second, .val (.int u2), .val (.long (9223372036854775806 : Int64)), .second, .unset, .unset, .unset, .unset, .unset, .unset, .unset, .unset] [(.long u0)]))
  obtain ⟨T1, X1, e1, st1⟩ := callPure X0 hx hZ (y := (⟨"com/example/equisetum/equisetum/DerivationsSumPinLaw", "toLength", "(J)J"⟩ : MethodName)) (v := (.long (f1 u0))) (W := 0) hown (hw _ (List.mem_of_getElem? (i := 1) rfl)) (hw _ (List.mem_of_getElem? (i := 2) rfl)) (hw _ (List.mem_of_getElem? (i := 3) rfl)) (hw _ (List.mem_of_getElem? (i := 4) rfl)) (by decide) e0 (met1 l Z a0 hw [] u0 h0) rfl rfl (by decide) (by decide) (pc := 6) (Ls := #[.val (.long u0), .second, .val (.long u1), .second, .val (.int u2), .val (.long (9223372036854775806 : Int64)), .second, .unset, .unset, .unset, .unset, .unset, .unset, .unset, .unset]) (argsL := [(.long u0)]) (rest := []) (by rw [hml]; rfl) (lenOf pd_1 rfl) rfl (Nat.le_of_eq rfl) (hb hby at_6) (by decide) (by decide)
  refine OEnds.pre (fun t k => st1 _ k) ?_
  show OEnds p e below s _ _ _ (T1.setTop (mkF m 9 #[.val (.long u0), .second, .val (.long u1), .second, .val (.int u2), .val (.long (9223372036854775806 : Int64)), .second, .unset, .unset, .unset, .unset, .unset, .unset, .unset, .unset] [(.long (f1 u0))]))
  refine OEnds.pre (fun t k => XT.lstore X1.here hx rfl (hb hby at_9) rfl (l' := #[.val (.long u0), .second, .val (.long u1), .second, .val (.int u2), .val (.long (9223372036854775806 : Int64)), .second, .val (.long (f1 u0)), .second, .unset, .unset, .unset, .unset, .unset, .unset]) rfl k) ?_
  show OEnds p e below s _ _ _ (T1.setTop (mkF m 11 #[.val (.long u0), .second, .val (.long u1), .second, .val (.int u2), .val (.long (9223372036854775806 : Int64)), .second, .val (.long (f1 u0)), .second, .unset, .unset, .unset, .unset, .unset, .unset] []))
  refine OEnds.pre (fun t k => XT.lloadN X1.here hx rfl (hb hby at_11) rfl k) ?_
  show OEnds p e below s _ _ _ (T1.setTop (mkF m 12 #[.val (.long u0), .second, .val (.long u1), .second, .val (.int u2), .val (.long (9223372036854775806 : Int64)), .second, .val (.long (f1 u0)), .second, .unset, .unset, .unset, .unset, .unset, .unset] [(.long u1)]))
  obtain ⟨T2, X2, e2, st2⟩ := callPure X1 hx hZ (y := (⟨"com/example/equisetum/equisetum/DerivationsSumPinLaw", "toLength", "(J)J"⟩ : MethodName)) (v := (.long (f1 u1))) (W := 0) hown (hw _ (List.mem_of_getElem? (i := 1) rfl)) (hw _ (List.mem_of_getElem? (i := 2) rfl)) (hw _ (List.mem_of_getElem? (i := 3) rfl)) (hw _ (List.mem_of_getElem? (i := 4) rfl)) (by decide) e1 (met1 l Z a0 hw [] u1 h0) rfl rfl (by decide) (by decide) (pc := 12) (Ls := #[.val (.long u0), .second, .val (.long u1), .second, .val (.int u2), .val (.long (9223372036854775806 : Int64)), .second, .val (.long (f1 u0)), .second, .unset, .unset, .unset, .unset, .unset, .unset]) (argsL := [(.long u1)]) (rest := []) (by rw [hml]; rfl) (lenOf pd_1 rfl) rfl (Nat.le_of_eq rfl) (hb hby at_12) (by decide) (by decide)
  refine OEnds.pre (fun t k => st2 _ k) ?_
  show OEnds p e below s _ _ _ (T2.setTop (mkF m 15 #[.val (.long u0), .second, .val (.long u1), .second, .val (.int u2), .val (.long (9223372036854775806 : Int64)), .second, .val (.long (f1 u0)), .second, .unset, .unset, .unset, .unset, .unset, .unset] [(.long (f1 u1))]))
  refine OEnds.pre (fun t k => XT.lstore X2.here hx rfl (hb hby at_15) rfl (l' := #[.val (.long u0), .second, .val (.long u1), .second, .val (.int u2), .val (.long (9223372036854775806 : Int64)), .second, .val (.long (f1 u0)), .second, .val (.long (f1 u1)), .second, .unset, .unset, .unset, .unset]) rfl k) ?_
  show OEnds p e below s _ _ _ (T2.setTop (mkF m 17 #[.val (.long u0), .second, .val (.long u1), .second, .val (.int u2), .val (.long (9223372036854775806 : Int64)), .second, .val (.long (f1 u0)), .second, .val (.long (f1 u1)), .second, .unset, .unset, .unset, .unset] []))
  refine OEnds.pre (fun t k => XS.iload X2.here hx rfl (hb hby at_17) rfl k) ?_
  show OEnds p e below s _ _ _ (T2.setTop (mkF m 19 #[.val (.long u0), .second, .val (.long u1), .second, .val (.int u2), .val (.long (9223372036854775806 : Int64)), .second, .val (.long (f1 u0)), .second, .val (.long (f1 u1)), .second, .unset, .unset, .unset, .unset] [(.int u2)]))
  refine OEnds.pre (fun t k => XT.iconstV X2.here hx rfl (1 : Int32) (hb hby at_19) rfl k) ?_
  show OEnds p e below s _ _ _ (T2.setTop (mkF m 20 #[.val (.long u0), .second, .val (.long u1), .second, .val (.int u2), .val (.long (9223372036854775806 : Int64)), .second, .val (.long (f1 u0)), .second, .val (.long (f1 u1)), .second, .unset, .unset, .unset, .unset] [(.int (1 : Int32)), (.int u2)]))
  refine OEnds.pre (fun t k => XS.iand X2.here hx rfl (hb hby at_20) rfl k) ?_
  show OEnds p e below s _ _ _ (T2.setTop (mkF m 21 #[.val (.long u0), .second, .val (.long u1), .second, .val (.int u2), .val (.long (9223372036854775806 : Int64)), .second, .val (.long (f1 u0)), .second, .val (.long (f1 u1)), .second, .unset, .unset, .unset, .unset] [(.int (u2 &&& (1 : Int32)))]))
  by_cases c1 : (u2 &&& (1 : Int32)) = (0 : Int32)
  · refine OEnds.pre (fun t k => XS.ifYes X2.here hx rfl (pc0 := 21) (pc' := 56) rfl (hb hby at_21) rfl (XT.i0_eq_t c1) (by decide) (by decide) k) ?_
    show OEnds p e below s _ _ _ (T2.setTop (mkF m 56 #[.val (.long u0), .second, .val (.long u1), .second, .val (.int u2), .val (.long (9223372036854775806 : Int64)), .second, .val (.long (f1 u0)), .second, .val (.long (f1 u1)), .second, .unset, .unset, .unset, .unset] []))
    refine OEnds.pre (fun t k => XT.lload X2.here hx rfl (hb hby at_56) rfl k) ?_
    show OEnds p e below s _ _ _ (T2.setTop (mkF m 58 #[.val (.long u0), .second, .val (.long u1), .second, .val (.int u2), .val (.long (9223372036854775806 : Int64)), .second, .val (.long (f1 u0)), .second, .val (.long (f1 u1)), .second, .unset, .unset, .unset, .unset] [(.long (f1 u0))]))
    refine OEnds.pre (fun t k => XT.lload X2.here hx rfl (hb hby at_58) rfl k) ?_
    show OEnds p e below s _ _ _ (T2.setTop (mkF m 60 #[.val (.long u0), .second, .val (.long u1), .second, .val (.int u2), .val (.long (9223372036854775806 : Int64)), .second, .val (.long (f1 u0)), .second, .val (.long (f1 u1)), .second, .unset, .unset, .unset, .unset] [(.long (f1 u1)), (.long (f1 u0))]))
    refine OEnds.pre (fun t k => XT.ladd X2.here hx rfl (hb hby at_60) rfl k) ?_
    show OEnds p e below s _ _ _ (T2.setTop (mkF m 61 #[.val (.long u0), .second, .val (.long u1), .second, .val (.int u2), .val (.long (9223372036854775806 : Int64)), .second, .val (.long (f1 u0)), .second, .val (.long (f1 u1)), .second, .unset, .unset, .unset, .unset] [(.long ((f1 u0) + (f1 u1)))]))
    refine OEnds.pre (fun t k => XT.lstore X2.here hx rfl (hb hby at_61) rfl (l' := #[.val (.long u0), .second, .val (.long u1), .second, .val (.int u2), .val (.long (9223372036854775806 : Int64)), .second, .val (.long (f1 u0)), .second, .val (.long (f1 u1)), .second, .val (.long ((f1 u0) + (f1 u1))), .second, .unset, .unset]) rfl k) ?_
    show OEnds p e below s _ _ _ (T2.setTop (mkF m 63 #[.val (.long u0), .second, .val (.long u1), .second, .val (.int u2), .val (.long (9223372036854775806 : Int64)), .second, .val (.long (f1 u0)), .second, .val (.long (f1 u1)), .second, .val (.long ((f1 u0) + (f1 u1))), .second, .unset, .unset] []))
    refine OEnds.pre (fun t k => XT.lload X2.here hx rfl (hb hby at_63) rfl k) ?_
    show OEnds p e below s _ _ _ (T2.setTop (mkF m 65 #[.val (.long u0), .second, .val (.long u1), .second, .val (.int u2), .val (.long (9223372036854775806 : Int64)), .second, .val (.long (f1 u0)), .second, .val (.long (f1 u1)), .second, .val (.long ((f1 u0) + (f1 u1))), .second, .unset, .unset] [(.long ((f1 u0) + (f1 u1)))]))
    refine OEnds.pre (fun t k => XT.lconstV X2.here hx rfl (0 : Int64) (hb hby at_65) rfl k) ?_
    show OEnds p e below s _ _ _ (T2.setTop (mkF m 66 #[.val (.long u0), .second, .val (.long u1), .second, .val (.int u2), .val (.long (9223372036854775806 : Int64)), .second, .val (.long (f1 u0)), .second, .val (.long (f1 u1)), .second, .val (.long ((f1 u0) + (f1 u1))), .second, .unset, .unset] [(.long (0 : Int64)), (.long ((f1 u0) + (f1 u1)))]))
    refine OEnds.pre (fun t k => XT.lcmp X2.here hx rfl (hb hby at_66) rfl k) ?_
    show OEnds p e below s _ _ _ (T2.setTop (mkF m 67 #[.val (.long u0), .second, .val (.long u1), .second, .val (.int u2), .val (.long (9223372036854775806 : Int64)), .second, .val (.long (f1 u0)), .second, .val (.long (f1 u1)), .second, .val (.long ((f1 u0) + (f1 u1))), .second, .unset, .unset] [(.int (XT.cmpL ((f1 u0) + (f1 u1)) (0 : Int64)))]))
    by_cases c2 : ((f1 u0) + (f1 u1)) < (0 : Int64)
    · refine OEnds.pre (fun t k => XS.ifYes X2.here hx rfl (pc0 := 67) (pc' := 78) rfl (hb hby at_67) rfl (XT.ll_lt_t c2) (by decide) (by decide) k) ?_
      show OEnds p e below s _ _ _ (T2.setTop (mkF m 78 #[.val (.long u0), .second, .val (.long u1), .second, .val (.int u2), .val (.long (9223372036854775806 : Int64)), .second, .val (.long (f1 u0)), .second, .val (.long (f1 u1)), .second, .val (.long ((f1 u0) + (f1 u1))), .second, .unset, .unset] []))
      refine OEnds.pre (fun t k => XT.lload X2.here hx rfl (hb hby at_78) rfl k) ?_
      show OEnds p e below s _ _ _ (T2.setTop (mkF m 80 #[.val (.long u0), .second, .val (.long u1), .second, .val (.int u2), .val (.long (9223372036854775806 : Int64)), .second, .val (.long (f1 u0)), .second, .val (.long (f1 u1)), .second, .val (.long ((f1 u0) + (f1 u1))), .second, .unset, .unset] [(.long (9223372036854775806 : Int64))]))
      refine OEnds.pre (fun t k => XS.goto X2.here hx rfl (pc0 := 80) (pc' := 85) rfl (hb hby at_80) (by decide) (by decide) k) ?_
      show OEnds p e below s _ _ _ (T2.setTop (mkF m 85 #[.val (.long u0), .second, .val (.long u1), .second, .val (.int u2), .val (.long (9223372036854775806 : Int64)), .second, .val (.long (f1 u0)), .second, .val (.long (f1 u1)), .second, .val (.long ((f1 u0) + (f1 u1))), .second, .unset, .unset] [(.long (9223372036854775806 : Int64))]))
      refine OEnds.pre (fun t k => XT.lstore X2.here hx rfl (hb hby at_85) rfl (l' := #[.val (.long u0), .second, .val (.long u1), .second, .val (.int u2), .val (.long (9223372036854775806 : Int64)), .second, .val (.long (f1 u0)), .second, .val (.long (f1 u1)), .second, .val (.long ((f1 u0) + (f1 u1))), .second, .val (.long (9223372036854775806 : Int64)), .second]) rfl k) ?_
      show OEnds p e below s _ _ _ (T2.setTop (mkF m 87 #[.val (.long u0), .second, .val (.long u1), .second, .val (.int u2), .val (.long (9223372036854775806 : Int64)), .second, .val (.long (f1 u0)), .second, .val (.long (f1 u1)), .second, .val (.long ((f1 u0) + (f1 u1))), .second, .val (.long (9223372036854775806 : Int64)), .second] []))
      refine OEnds.pre (fun t k => XT.lload X2.here hx rfl (hb hby at_87) rfl k) ?_
      show OEnds p e below s _ _ _ (T2.setTop (mkF m 89 #[.val (.long u0), .second, .val (.long u1), .second, .val (.int u2), .val (.long (9223372036854775806 : Int64)), .second, .val (.long (f1 u0)), .second, .val (.long (f1 u1)), .second, .val (.long ((f1 u0) + (f1 u1))), .second, .val (.long (9223372036854775806 : Int64)), .second] [(.long (f1 u0))]))
      refine OEnds.pre (fun t k => XT.lload X2.here hx rfl (hb hby at_89) rfl k) ?_
      show OEnds p e below s _ _ _ (T2.setTop (mkF m 91 #[.val (.long u0), .second, .val (.long u1), .second, .val (.int u2), .val (.long (9223372036854775806 : Int64)), .second, .val (.long (f1 u0)), .second, .val (.long (f1 u1)), .second, .val (.long ((f1 u0) + (f1 u1))), .second, .val (.long (9223372036854775806 : Int64)), .second] [(.long (f1 u1)), (.long (f1 u0))]))
      obtain ⟨T3, X3, e3, st3⟩ := callPure X2 hx hZ (y := (⟨"com/example/equisetum/equisetum/Derivations", "sum", "(JJ)J"⟩ : MethodName)) (v := (.long (f3 (f1 u0) (f1 u1)))) (W := 0) hown (hw _ (List.mem_of_getElem? (i := 10) rfl)) (hw _ (List.mem_of_getElem? (i := 11) rfl)) (hw _ (List.mem_of_getElem? (i := 12) rfl)) (hw _ (List.mem_of_getElem? (i := 13) rfl)) (by decide) e2 (met3 l Z a0 hw [] (f1 u0) (f1 u1) h0) rfl rfl (by decide) (by decide) (pc := 91) (Ls := #[.val (.long u0), .second, .val (.long u1), .second, .val (.int u2), .val (.long (9223372036854775806 : Int64)), .second, .val (.long (f1 u0)), .second, .val (.long (f1 u1)), .second, .val (.long ((f1 u0) + (f1 u1))), .second, .val (.long (9223372036854775806 : Int64)), .second]) (argsL := [(.long (f1 u0)), (.long (f1 u1))]) (rest := []) (by rw [hml]; rfl) (lenOf pd_3 rfl) rfl (Nat.le_of_eq rfl) (hb hby at_91) (by decide) (by decide)
      refine OEnds.pre (fun t k => st3 _ k) ?_
      show OEnds p e below s _ _ _ (T3.setTop (mkF m 94 #[.val (.long u0), .second, .val (.long u1), .second, .val (.int u2), .val (.long (9223372036854775806 : Int64)), .second, .val (.long (f1 u0)), .second, .val (.long (f1 u1)), .second, .val (.long ((f1 u0) + (f1 u1))), .second, .val (.long (9223372036854775806 : Int64)), .second] [(.long (f3 (f1 u0) (f1 u1)))]))
      refine OEnds.pre (fun t k => XT.lload X3.here hx rfl (hb hby at_94) rfl k) ?_
      show OEnds p e below s _ _ _ (T3.setTop (mkF m 96 #[.val (.long u0), .second, .val (.long u1), .second, .val (.int u2), .val (.long (9223372036854775806 : Int64)), .second, .val (.long (f1 u0)), .second, .val (.long (f1 u1)), .second, .val (.long ((f1 u0) + (f1 u1))), .second, .val (.long (9223372036854775806 : Int64)), .second] [(.long (9223372036854775806 : Int64)), (.long (f3 (f1 u0) (f1 u1)))]))
      refine OEnds.pre (fun t k => XT.lcmp X3.here hx rfl (hb hby at_96) rfl k) ?_
      show OEnds p e below s _ _ _ (T3.setTop (mkF m 97 #[.val (.long u0), .second, .val (.long u1), .second, .val (.int u2), .val (.long (9223372036854775806 : Int64)), .second, .val (.long (f1 u0)), .second, .val (.long (f1 u1)), .second, .val (.long ((f1 u0) + (f1 u1))), .second, .val (.long (9223372036854775806 : Int64)), .second] [(.int (XT.cmpL (f3 (f1 u0) (f1 u1)) (9223372036854775806 : Int64)))]))
      by_cases c3 : (f3 (f1 u0) (f1 u1)) = (9223372036854775806 : Int64)
      · refine OEnds.pre (fun t k => XS.ifNo X3.here hx rfl (hb hby at_97) rfl (XT.ll_ne_f c3) k) ?_
        show OEnds p e below s _ _ _ (T3.setTop (mkF m 100 #[.val (.long u0), .second, .val (.long u1), .second, .val (.int u2), .val (.long (9223372036854775806 : Int64)), .second, .val (.long (f1 u0)), .second, .val (.long (f1 u1)), .second, .val (.long ((f1 u0) + (f1 u1))), .second, .val (.long (9223372036854775806 : Int64)), .second] []))
        refine OEnds.pre (fun t k => XT.iconstV X3.here hx rfl (1 : Int32) (hb hby at_100) rfl k) ?_
        show OEnds p e below s _ _ _ (T3.setTop (mkF m 101 #[.val (.long u0), .second, .val (.long u1), .second, .val (.int u2), .val (.long (9223372036854775806 : Int64)), .second, .val (.long (f1 u0)), .second, .val (.long (f1 u1)), .second, .val (.long ((f1 u0) + (f1 u1))), .second, .val (.long (9223372036854775806 : Int64)), .second] [(.int (1 : Int32))]))
        refine OEnds.pre (fun t k => XS.goto X3.here hx rfl (pc0 := 101) (pc' := 105) rfl (hb hby at_101) (by decide) (by decide) k) ?_
        show OEnds p e below s _ _ _ (T3.setTop (mkF m 105 #[.val (.long u0), .second, .val (.long u1), .second, .val (.int u2), .val (.long (9223372036854775806 : Int64)), .second, .val (.long (f1 u0)), .second, .val (.long (f1 u1)), .second, .val (.long ((f1 u0) + (f1 u1))), .second, .val (.long (9223372036854775806 : Int64)), .second] [(.int (1 : Int32))]))
        exact OEnds.nrw X3 hx Bd.notSynchronized Bd.returns (by simp) (hb hby at_105) (Nat.zero_le _) (Nat.zero_le _) ⟨congrArg (fun q => some (Value.int q)) (show (1 : Int32) = _ from by unfold f0; rw [if_pos c1, if_pos c2, if_pos c3]), rfl, e3⟩
      · refine OEnds.pre (fun t k => XS.ifYes X3.here hx rfl (pc0 := 97) (pc' := 104) rfl (hb hby at_97) rfl (XT.ll_ne_t c3) (by decide) (by decide) k) ?_
        show OEnds p e below s _ _ _ (T3.setTop (mkF m 104 #[.val (.long u0), .second, .val (.long u1), .second, .val (.int u2), .val (.long (9223372036854775806 : Int64)), .second, .val (.long (f1 u0)), .second, .val (.long (f1 u1)), .second, .val (.long ((f1 u0) + (f1 u1))), .second, .val (.long (9223372036854775806 : Int64)), .second] []))
        refine OEnds.pre (fun t k => XT.iconstV X3.here hx rfl (0 : Int32) (hb hby at_104) rfl k) ?_
        show OEnds p e below s _ _ _ (T3.setTop (mkF m 105 #[.val (.long u0), .second, .val (.long u1), .second, .val (.int u2), .val (.long (9223372036854775806 : Int64)), .second, .val (.long (f1 u0)), .second, .val (.long (f1 u1)), .second, .val (.long ((f1 u0) + (f1 u1))), .second, .val (.long (9223372036854775806 : Int64)), .second] [(.int (0 : Int32))]))
        exact OEnds.nrw X3 hx Bd.notSynchronized Bd.returns (by simp) (hb hby at_105) (Nat.zero_le _) (Nat.zero_le _) ⟨congrArg (fun q => some (Value.int q)) (show (0 : Int32) = _ from by unfold f0; rw [if_pos c1, if_pos c2, if_neg c3]), rfl, e3⟩
    · refine OEnds.pre (fun t k => XS.ifNo X2.here hx rfl (hb hby at_67) rfl (XT.ll_lt_f c2) k) ?_
      show OEnds p e below s _ _ _ (T2.setTop (mkF m 70 #[.val (.long u0), .second, .val (.long u1), .second, .val (.int u2), .val (.long (9223372036854775806 : Int64)), .second, .val (.long (f1 u0)), .second, .val (.long (f1 u1)), .second, .val (.long ((f1 u0) + (f1 u1))), .second, .unset, .unset] []))
      refine OEnds.pre (fun t k => XT.lload X2.here hx rfl (hb hby at_70) rfl k) ?_
      show OEnds p e below s _ _ _ (T2.setTop (mkF m 72 #[.val (.long u0), .second, .val (.long u1), .second, .val (.int u2), .val (.long (9223372036854775806 : Int64)), .second, .val (.long (f1 u0)), .second, .val (.long (f1 u1)), .second, .val (.long ((f1 u0) + (f1 u1))), .second, .unset, .unset] [(.long ((f1 u0) + (f1 u1)))]))
      refine OEnds.pre (fun t k => XT.lload X2.here hx rfl (hb hby at_72) rfl k) ?_
      show OEnds p e below s _ _ _ (T2.setTop (mkF m 74 #[.val (.long u0), .second, .val (.long u1), .second, .val (.int u2), .val (.long (9223372036854775806 : Int64)), .second, .val (.long (f1 u0)), .second, .val (.long (f1 u1)), .second, .val (.long ((f1 u0) + (f1 u1))), .second, .unset, .unset] [(.long (9223372036854775806 : Int64)), (.long ((f1 u0) + (f1 u1)))]))
      refine OEnds.pre (fun t k => XT.lcmp X2.here hx rfl (hb hby at_74) rfl k) ?_
      show OEnds p e below s _ _ _ (T2.setTop (mkF m 75 #[.val (.long u0), .second, .val (.long u1), .second, .val (.int u2), .val (.long (9223372036854775806 : Int64)), .second, .val (.long (f1 u0)), .second, .val (.long (f1 u1)), .second, .val (.long ((f1 u0) + (f1 u1))), .second, .unset, .unset] [(.int (XT.cmpL ((f1 u0) + (f1 u1)) (9223372036854775806 : Int64)))]))
      by_cases c3 : ((f1 u0) + (f1 u1)) < (9223372036854775806 : Int64)
      · refine OEnds.pre (fun t k => XS.ifYes X2.here hx rfl (pc0 := 75) (pc' := 83) rfl (hb hby at_75) rfl (XT.ll_lt_t c3) (by decide) (by decide) k) ?_
        show OEnds p e below s _ _ _ (T2.setTop (mkF m 83 #[.val (.long u0), .second, .val (.long u1), .second, .val (.int u2), .val (.long (9223372036854775806 : Int64)), .second, .val (.long (f1 u0)), .second, .val (.long (f1 u1)), .second, .val (.long ((f1 u0) + (f1 u1))), .second, .unset, .unset] []))
        refine OEnds.pre (fun t k => XT.lload X2.here hx rfl (hb hby at_83) rfl k) ?_
        show OEnds p e below s _ _ _ (T2.setTop (mkF m 85 #[.val (.long u0), .second, .val (.long u1), .second, .val (.int u2), .val (.long (9223372036854775806 : Int64)), .second, .val (.long (f1 u0)), .second, .val (.long (f1 u1)), .second, .val (.long ((f1 u0) + (f1 u1))), .second, .unset, .unset] [(.long ((f1 u0) + (f1 u1)))]))
        refine OEnds.pre (fun t k => XT.lstore X2.here hx rfl (hb hby at_85) rfl (l' := #[.val (.long u0), .second, .val (.long u1), .second, .val (.int u2), .val (.long (9223372036854775806 : Int64)), .second, .val (.long (f1 u0)), .second, .val (.long (f1 u1)), .second, .val (.long ((f1 u0) + (f1 u1))), .second, .val (.long ((f1 u0) + (f1 u1))), .second]) rfl k) ?_
        show OEnds p e below s _ _ _ (T2.setTop (mkF m 87 #[.val (.long u0), .second, .val (.long u1), .second, .val (.int u2), .val (.long (9223372036854775806 : Int64)), .second, .val (.long (f1 u0)), .second, .val (.long (f1 u1)), .second, .val (.long ((f1 u0) + (f1 u1))), .second, .val (.long ((f1 u0) + (f1 u1))), .second] []))
        refine OEnds.pre (fun t k => XT.lload X2.here hx rfl (hb hby at_87) rfl k) ?_
        show OEnds p e below s _ _ _ (T2.setTop (mkF m 89 #[.val (.long u0), .second, .val (.long u1), .second, .val (.int u2), .val (.long (9223372036854775806 : Int64)), .second, .val (.long (f1 u0)), .second, .val (.long (f1 u1)), .second, .val (.long ((f1 u0) + (f1 u1))), .second, .val (.long ((f1 u0) + (f1 u1))), .second] [(.long (f1 u0))]))
        refine OEnds.pre (fun t k => XT.lload X2.here hx rfl (hb hby at_89) rfl k) ?_
        show OEnds p e below s _ _ _ (T2.setTop (mkF m 91 #[.val (.long u0), .second, .val (.long u1), .second, .val (.int u2), .val (.long (9223372036854775806 : Int64)), .second, .val (.long (f1 u0)), .second, .val (.long (f1 u1)), .second, .val (.long ((f1 u0) + (f1 u1))), .second, .val (.long ((f1 u0) + (f1 u1))), .second] [(.long (f1 u1)), (.long (f1 u0))]))
        obtain ⟨T4, X4, e4, st4⟩ := callPure X2 hx hZ (y := (⟨"com/example/equisetum/equisetum/Derivations", "sum", "(JJ)J"⟩ : MethodName)) (v := (.long (f3 (f1 u0) (f1 u1)))) (W := 0) hown (hw _ (List.mem_of_getElem? (i := 10) rfl)) (hw _ (List.mem_of_getElem? (i := 11) rfl)) (hw _ (List.mem_of_getElem? (i := 12) rfl)) (hw _ (List.mem_of_getElem? (i := 13) rfl)) (by decide) e2 (met3 l Z a0 hw [] (f1 u0) (f1 u1) h0) rfl rfl (by decide) (by decide) (pc := 91) (Ls := #[.val (.long u0), .second, .val (.long u1), .second, .val (.int u2), .val (.long (9223372036854775806 : Int64)), .second, .val (.long (f1 u0)), .second, .val (.long (f1 u1)), .second, .val (.long ((f1 u0) + (f1 u1))), .second, .val (.long ((f1 u0) + (f1 u1))), .second]) (argsL := [(.long (f1 u0)), (.long (f1 u1))]) (rest := []) (by rw [hml]; rfl) (lenOf pd_3 rfl) rfl (Nat.le_of_eq rfl) (hb hby at_91) (by decide) (by decide)
        refine OEnds.pre (fun t k => st4 _ k) ?_
        show OEnds p e below s _ _ _ (T4.setTop (mkF m 94 #[.val (.long u0), .second, .val (.long u1), .second, .val (.int u2), .val (.long (9223372036854775806 : Int64)), .second, .val (.long (f1 u0)), .second, .val (.long (f1 u1)), .second, .val (.long ((f1 u0) + (f1 u1))), .second, .val (.long ((f1 u0) + (f1 u1))), .second] [(.long (f3 (f1 u0) (f1 u1)))]))
        refine OEnds.pre (fun t k => XT.lload X4.here hx rfl (hb hby at_94) rfl k) ?_
        show OEnds p e below s _ _ _ (T4.setTop (mkF m 96 #[.val (.long u0), .second, .val (.long u1), .second, .val (.int u2), .val (.long (9223372036854775806 : Int64)), .second, .val (.long (f1 u0)), .second, .val (.long (f1 u1)), .second, .val (.long ((f1 u0) + (f1 u1))), .second, .val (.long ((f1 u0) + (f1 u1))), .second] [(.long ((f1 u0) + (f1 u1))), (.long (f3 (f1 u0) (f1 u1)))]))
        refine OEnds.pre (fun t k => XT.lcmp X4.here hx rfl (hb hby at_96) rfl k) ?_
        show OEnds p e below s _ _ _ (T4.setTop (mkF m 97 #[.val (.long u0), .second, .val (.long u1), .second, .val (.int u2), .val (.long (9223372036854775806 : Int64)), .second, .val (.long (f1 u0)), .second, .val (.long (f1 u1)), .second, .val (.long ((f1 u0) + (f1 u1))), .second, .val (.long ((f1 u0) + (f1 u1))), .second] [(.int (XT.cmpL (f3 (f1 u0) (f1 u1)) ((f1 u0) + (f1 u1))))]))
        by_cases c4 : (f3 (f1 u0) (f1 u1)) = ((f1 u0) + (f1 u1))
        · refine OEnds.pre (fun t k => XS.ifNo X4.here hx rfl (hb hby at_97) rfl (XT.ll_ne_f c4) k) ?_
          show OEnds p e below s _ _ _ (T4.setTop (mkF m 100 #[.val (.long u0), .second, .val (.long u1), .second, .val (.int u2), .val (.long (9223372036854775806 : Int64)), .second, .val (.long (f1 u0)), .second, .val (.long (f1 u1)), .second, .val (.long ((f1 u0) + (f1 u1))), .second, .val (.long ((f1 u0) + (f1 u1))), .second] []))
          refine OEnds.pre (fun t k => XT.iconstV X4.here hx rfl (1 : Int32) (hb hby at_100) rfl k) ?_
          show OEnds p e below s _ _ _ (T4.setTop (mkF m 101 #[.val (.long u0), .second, .val (.long u1), .second, .val (.int u2), .val (.long (9223372036854775806 : Int64)), .second, .val (.long (f1 u0)), .second, .val (.long (f1 u1)), .second, .val (.long ((f1 u0) + (f1 u1))), .second, .val (.long ((f1 u0) + (f1 u1))), .second] [(.int (1 : Int32))]))
          refine OEnds.pre (fun t k => XS.goto X4.here hx rfl (pc0 := 101) (pc' := 105) rfl (hb hby at_101) (by decide) (by decide) k) ?_
          show OEnds p e below s _ _ _ (T4.setTop (mkF m 105 #[.val (.long u0), .second, .val (.long u1), .second, .val (.int u2), .val (.long (9223372036854775806 : Int64)), .second, .val (.long (f1 u0)), .second, .val (.long (f1 u1)), .second, .val (.long ((f1 u0) + (f1 u1))), .second, .val (.long ((f1 u0) + (f1 u1))), .second] [(.int (1 : Int32))]))
          exact OEnds.nrw X4 hx Bd.notSynchronized Bd.returns (by simp) (hb hby at_105) (Nat.zero_le _) (Nat.zero_le _) ⟨congrArg (fun q => some (Value.int q)) (show (1 : Int32) = _ from by unfold f0; rw [if_pos c1, if_neg c2, if_pos c3, if_pos c4]), rfl, e4⟩
        · refine OEnds.pre (fun t k => XS.ifYes X4.here hx rfl (pc0 := 97) (pc' := 104) rfl (hb hby at_97) rfl (XT.ll_ne_t c4) (by decide) (by decide) k) ?_
          show OEnds p e below s _ _ _ (T4.setTop (mkF m 104 #[.val (.long u0), .second, .val (.long u1), .second, .val (.int u2), .val (.long (9223372036854775806 : Int64)), .second, .val (.long (f1 u0)), .second, .val (.long (f1 u1)), .second, .val (.long ((f1 u0) + (f1 u1))), .second, .val (.long ((f1 u0) + (f1 u1))), .second] []))
          refine OEnds.pre (fun t k => XT.iconstV X4.here hx rfl (0 : Int32) (hb hby at_104) rfl k) ?_
          show OEnds p e below s _ _ _ (T4.setTop (mkF m 105 #[.val (.long u0), .second, .val (.long u1), .second, .val (.int u2), .val (.long (9223372036854775806 : Int64)), .second, .val (.long (f1 u0)), .second, .val (.long (f1 u1)), .second, .val (.long ((f1 u0) + (f1 u1))), .second, .val (.long ((f1 u0) + (f1 u1))), .second] [(.int (0 : Int32))]))
          exact OEnds.nrw X4 hx Bd.notSynchronized Bd.returns (by simp) (hb hby at_105) (Nat.zero_le _) (Nat.zero_le _) ⟨congrArg (fun q => some (Value.int q)) (show (0 : Int32) = _ from by unfold f0; rw [if_pos c1, if_neg c2, if_pos c3, if_neg c4]), rfl, e4⟩
      · refine OEnds.pre (fun t k => XS.ifNo X2.here hx rfl (hb hby at_75) rfl (XT.ll_lt_f c3) k) ?_
        show OEnds p e below s _ _ _ (T2.setTop (mkF m 78 #[.val (.long u0), .second, .val (.long u1), .second, .val (.int u2), .val (.long (9223372036854775806 : Int64)), .second, .val (.long (f1 u0)), .second, .val (.long (f1 u1)), .second, .val (.long ((f1 u0) + (f1 u1))), .second, .unset, .unset] []))
        refine OEnds.pre (fun t k => XT.lload X2.here hx rfl (hb hby at_78) rfl k) ?_
        show OEnds p e below s _ _ _ (T2.setTop (mkF m 80 #[.val (.long u0), .second, .val (.long u1), .second, .val (.int u2), .val (.long (9223372036854775806 : Int64)), .second, .val (.long (f1 u0)), .second, .val (.long (f1 u1)), .second, .val (.long ((f1 u0) + (f1 u1))), .second, .unset, .unset] [(.long (9223372036854775806 : Int64))]))
        refine OEnds.pre (fun t k => XS.goto X2.here hx rfl (pc0 := 80) (pc' := 85) rfl (hb hby at_80) (by decide) (by decide) k) ?_
        show OEnds p e below s _ _ _ (T2.setTop (mkF m 85 #[.val (.long u0), .second, .val (.long u1), .second, .val (.int u2), .val (.long (9223372036854775806 : Int64)), .second, .val (.long (f1 u0)), .second, .val (.long (f1 u1)), .second, .val (.long ((f1 u0) + (f1 u1))), .second, .unset, .unset] [(.long (9223372036854775806 : Int64))]))
        refine OEnds.pre (fun t k => XT.lstore X2.here hx rfl (hb hby at_85) rfl (l' := #[.val (.long u0), .second, .val (.long u1), .second, .val (.int u2), .val (.long (9223372036854775806 : Int64)), .second, .val (.long (f1 u0)), .second, .val (.long (f1 u1)), .second, .val (.long ((f1 u0) + (f1 u1))), .second, .val (.long (9223372036854775806 : Int64)), .second]) rfl k) ?_
        show OEnds p e below s _ _ _ (T2.setTop (mkF m 87 #[.val (.long u0), .second, .val (.long u1), .second, .val (.int u2), .val (.long (9223372036854775806 : Int64)), .second, .val (.long (f1 u0)), .second, .val (.long (f1 u1)), .second, .val (.long ((f1 u0) + (f1 u1))), .second, .val (.long (9223372036854775806 : Int64)), .second] []))
        refine OEnds.pre (fun t k => XT.lload X2.here hx rfl (hb hby at_87) rfl k) ?_
        show OEnds p e below s _ _ _ (T2.setTop (mkF m 89 #[.val (.long u0), .second, .val (.long u1), .second, .val (.int u2), .val (.long (9223372036854775806 : Int64)), .second, .val (.long (f1 u0)), .second, .val (.long (f1 u1)), .second, .val (.long ((f1 u0) + (f1 u1))), .second, .val (.long (9223372036854775806 : Int64)), .second] [(.long (f1 u0))]))
        refine OEnds.pre (fun t k => XT.lload X2.here hx rfl (hb hby at_89) rfl k) ?_
        show OEnds p e below s _ _ _ (T2.setTop (mkF m 91 #[.val (.long u0), .second, .val (.long u1), .second, .val (.int u2), .val (.long (9223372036854775806 : Int64)), .second, .val (.long (f1 u0)), .second, .val (.long (f1 u1)), .second, .val (.long ((f1 u0) + (f1 u1))), .second, .val (.long (9223372036854775806 : Int64)), .second] [(.long (f1 u1)), (.long (f1 u0))]))
        obtain ⟨T5, X5, e5, st5⟩ := callPure X2 hx hZ (y := (⟨"com/example/equisetum/equisetum/Derivations", "sum", "(JJ)J"⟩ : MethodName)) (v := (.long (f3 (f1 u0) (f1 u1)))) (W := 0) hown (hw _ (List.mem_of_getElem? (i := 10) rfl)) (hw _ (List.mem_of_getElem? (i := 11) rfl)) (hw _ (List.mem_of_getElem? (i := 12) rfl)) (hw _ (List.mem_of_getElem? (i := 13) rfl)) (by decide) e2 (met3 l Z a0 hw [] (f1 u0) (f1 u1) h0) rfl rfl (by decide) (by decide) (pc := 91) (Ls := #[.val (.long u0), .second, .val (.long u1), .second, .val (.int u2), .val (.long (9223372036854775806 : Int64)), .second, .val (.long (f1 u0)), .second, .val (.long (f1 u1)), .second, .val (.long ((f1 u0) + (f1 u1))), .second, .val (.long (9223372036854775806 : Int64)), .second]) (argsL := [(.long (f1 u0)), (.long (f1 u1))]) (rest := []) (by rw [hml]; rfl) (lenOf pd_3 rfl) rfl (Nat.le_of_eq rfl) (hb hby at_91) (by decide) (by decide)
        refine OEnds.pre (fun t k => st5 _ k) ?_
        show OEnds p e below s _ _ _ (T5.setTop (mkF m 94 #[.val (.long u0), .second, .val (.long u1), .second, .val (.int u2), .val (.long (9223372036854775806 : Int64)), .second, .val (.long (f1 u0)), .second, .val (.long (f1 u1)), .second, .val (.long ((f1 u0) + (f1 u1))), .second, .val (.long (9223372036854775806 : Int64)), .second] [(.long (f3 (f1 u0) (f1 u1)))]))
        refine OEnds.pre (fun t k => XT.lload X5.here hx rfl (hb hby at_94) rfl k) ?_
        show OEnds p e below s _ _ _ (T5.setTop (mkF m 96 #[.val (.long u0), .second, .val (.long u1), .second, .val (.int u2), .val (.long (9223372036854775806 : Int64)), .second, .val (.long (f1 u0)), .second, .val (.long (f1 u1)), .second, .val (.long ((f1 u0) + (f1 u1))), .second, .val (.long (9223372036854775806 : Int64)), .second] [(.long (9223372036854775806 : Int64)), (.long (f3 (f1 u0) (f1 u1)))]))
        refine OEnds.pre (fun t k => XT.lcmp X5.here hx rfl (hb hby at_96) rfl k) ?_
        show OEnds p e below s _ _ _ (T5.setTop (mkF m 97 #[.val (.long u0), .second, .val (.long u1), .second, .val (.int u2), .val (.long (9223372036854775806 : Int64)), .second, .val (.long (f1 u0)), .second, .val (.long (f1 u1)), .second, .val (.long ((f1 u0) + (f1 u1))), .second, .val (.long (9223372036854775806 : Int64)), .second] [(.int (XT.cmpL (f3 (f1 u0) (f1 u1)) (9223372036854775806 : Int64)))]))
        by_cases c4 : (f3 (f1 u0) (f1 u1)) = (9223372036854775806 : Int64)
        · refine OEnds.pre (fun t k => XS.ifNo X5.here hx rfl (hb hby at_97) rfl (XT.ll_ne_f c4) k) ?_
          show OEnds p e below s _ _ _ (T5.setTop (mkF m 100 #[.val (.long u0), .second, .val (.long u1), .second, .val (.int u2), .val (.long (9223372036854775806 : Int64)), .second, .val (.long (f1 u0)), .second, .val (.long (f1 u1)), .second, .val (.long ((f1 u0) + (f1 u1))), .second, .val (.long (9223372036854775806 : Int64)), .second] []))
          refine OEnds.pre (fun t k => XT.iconstV X5.here hx rfl (1 : Int32) (hb hby at_100) rfl k) ?_
          show OEnds p e below s _ _ _ (T5.setTop (mkF m 101 #[.val (.long u0), .second, .val (.long u1), .second, .val (.int u2), .val (.long (9223372036854775806 : Int64)), .second, .val (.long (f1 u0)), .second, .val (.long (f1 u1)), .second, .val (.long ((f1 u0) + (f1 u1))), .second, .val (.long (9223372036854775806 : Int64)), .second] [(.int (1 : Int32))]))
          refine OEnds.pre (fun t k => XS.goto X5.here hx rfl (pc0 := 101) (pc' := 105) rfl (hb hby at_101) (by decide) (by decide) k) ?_
          show OEnds p e below s _ _ _ (T5.setTop (mkF m 105 #[.val (.long u0), .second, .val (.long u1), .second, .val (.int u2), .val (.long (9223372036854775806 : Int64)), .second, .val (.long (f1 u0)), .second, .val (.long (f1 u1)), .second, .val (.long ((f1 u0) + (f1 u1))), .second, .val (.long (9223372036854775806 : Int64)), .second] [(.int (1 : Int32))]))
          exact OEnds.nrw X5 hx Bd.notSynchronized Bd.returns (by simp) (hb hby at_105) (Nat.zero_le _) (Nat.zero_le _) ⟨congrArg (fun q => some (Value.int q)) (show (1 : Int32) = _ from by unfold f0; rw [if_pos c1, if_neg c2, if_neg c3, if_pos c4]), rfl, e5⟩
        · refine OEnds.pre (fun t k => XS.ifYes X5.here hx rfl (pc0 := 97) (pc' := 104) rfl (hb hby at_97) rfl (XT.ll_ne_t c4) (by decide) (by decide) k) ?_
          show OEnds p e below s _ _ _ (T5.setTop (mkF m 104 #[.val (.long u0), .second, .val (.long u1), .second, .val (.int u2), .val (.long (9223372036854775806 : Int64)), .second, .val (.long (f1 u0)), .second, .val (.long (f1 u1)), .second, .val (.long ((f1 u0) + (f1 u1))), .second, .val (.long (9223372036854775806 : Int64)), .second] []))
          refine OEnds.pre (fun t k => XT.iconstV X5.here hx rfl (0 : Int32) (hb hby at_104) rfl k) ?_
          show OEnds p e below s _ _ _ (T5.setTop (mkF m 105 #[.val (.long u0), .second, .val (.long u1), .second, .val (.int u2), .val (.long (9223372036854775806 : Int64)), .second, .val (.long (f1 u0)), .second, .val (.long (f1 u1)), .second, .val (.long ((f1 u0) + (f1 u1))), .second, .val (.long (9223372036854775806 : Int64)), .second] [(.int (0 : Int32))]))
          exact OEnds.nrw X5 hx Bd.notSynchronized Bd.returns (by simp) (hb hby at_105) (Nat.zero_le _) (Nat.zero_le _) ⟨congrArg (fun q => some (Value.int q)) (show (0 : Int32) = _ from by unfold f0; rw [if_pos c1, if_neg c2, if_neg c3, if_neg c4]), rfl, e5⟩
  · refine OEnds.pre (fun t k => XS.ifNo X2.here hx rfl (hb hby at_21) rfl (XT.i0_eq_f c1) k) ?_
    show OEnds p e below s _ _ _ (T2.setTop (mkF m 24 #[.val (.long u0), .second, .val (.long u1), .second, .val (.int u2), .val (.long (9223372036854775806 : Int64)), .second, .val (.long (f1 u0)), .second, .val (.long (f1 u1)), .second, .unset, .unset, .unset, .unset] []))
    refine OEnds.pre (fun t k => XT.lload X2.here hx rfl (hb hby at_24) rfl k) ?_
    show OEnds p e below s _ _ _ (T2.setTop (mkF m 26 #[.val (.long u0), .second, .val (.long u1), .second, .val (.int u2), .val (.long (9223372036854775806 : Int64)), .second, .val (.long (f1 u0)), .second, .val (.long (f1 u1)), .second, .unset, .unset, .unset, .unset] [(.long (9223372036854775806 : Int64))]))
    refine OEnds.pre (fun t k => XT.lload X2.here hx rfl (hb hby at_26) rfl k) ?_
    show OEnds p e below s _ _ _ (T2.setTop (mkF m 28 #[.val (.long u0), .second, .val (.long u1), .second, .val (.int u2), .val (.long (9223372036854775806 : Int64)), .second, .val (.long (f1 u0)), .second, .val (.long (f1 u1)), .second, .unset, .unset, .unset, .unset] [(.long (f1 u0)), (.long (9223372036854775806 : Int64))]))
    refine OEnds.pre (fun t k => XT.lsub X2.here hx rfl (hb hby at_28) rfl k) ?_
    show OEnds p e below s _ _ _ (T2.setTop (mkF m 29 #[.val (.long u0), .second, .val (.long u1), .second, .val (.int u2), .val (.long (9223372036854775806 : Int64)), .second, .val (.long (f1 u0)), .second, .val (.long (f1 u1)), .second, .unset, .unset, .unset, .unset] [(.long ((9223372036854775806 : Int64) - (f1 u0)))]))
    refine OEnds.pre (fun t k => XS.iload X2.here hx rfl (hb hby at_29) rfl k) ?_
    show OEnds p e below s _ _ _ (T2.setTop (mkF m 31 #[.val (.long u0), .second, .val (.long u1), .second, .val (.int u2), .val (.long (9223372036854775806 : Int64)), .second, .val (.long (f1 u0)), .second, .val (.long (f1 u1)), .second, .unset, .unset, .unset, .unset] [(.int u2), (.long ((9223372036854775806 : Int64) - (f1 u0)))]))
    refine OEnds.pre (fun t k => XT.iconstV X2.here hx rfl (1 : Int32) (hb hby at_31) rfl k) ?_
    show OEnds p e below s _ _ _ (T2.setTop (mkF m 32 #[.val (.long u0), .second, .val (.long u1), .second, .val (.int u2), .val (.long (9223372036854775806 : Int64)), .second, .val (.long (f1 u0)), .second, .val (.long (f1 u1)), .second, .unset, .unset, .unset, .unset] [(.int (1 : Int32)), (.int u2), (.long ((9223372036854775806 : Int64) - (f1 u0)))]))
    refine OEnds.pre (fun t k => XT.ishr X2.here hx rfl (hb hby at_32) rfl k) ?_
    show OEnds p e below s _ _ _ (T2.setTop (mkF m 33 #[.val (.long u0), .second, .val (.long u1), .second, .val (.int u2), .val (.long (9223372036854775806 : Int64)), .second, .val (.long (f1 u0)), .second, .val (.long (f1 u1)), .second, .unset, .unset, .unset, .unset] [(.int (u2 >>> ((1 : Int32) &&& 31))), (.long ((9223372036854775806 : Int64) - (f1 u0)))]))
    refine OEnds.pre (fun t k => XT.iconstV X2.here hx rfl (3 : Int32) (hb hby at_33) rfl k) ?_
    show OEnds p e below s _ _ _ (T2.setTop (mkF m 34 #[.val (.long u0), .second, .val (.long u1), .second, .val (.int u2), .val (.long (9223372036854775806 : Int64)), .second, .val (.long (f1 u0)), .second, .val (.long (f1 u1)), .second, .unset, .unset, .unset, .unset] [(.int (3 : Int32)), (.int (u2 >>> ((1 : Int32) &&& 31))), (.long ((9223372036854775806 : Int64) - (f1 u0)))]))
    refine OEnds.pre (fun t k => XS.iand X2.here hx rfl (hb hby at_34) rfl k) ?_
    show OEnds p e below s _ _ _ (T2.setTop (mkF m 35 #[.val (.long u0), .second, .val (.long u1), .second, .val (.int u2), .val (.long (9223372036854775806 : Int64)), .second, .val (.long (f1 u0)), .second, .val (.long (f1 u1)), .second, .unset, .unset, .unset, .unset] [(.int ((u2 >>> ((1 : Int32) &&& 31)) &&& (3 : Int32))), (.long ((9223372036854775806 : Int64) - (f1 u0)))]))
    refine OEnds.pre (fun t k => XT.i2l X2.here hx rfl (hb hby at_35) rfl k) ?_
    show OEnds p e below s _ _ _ (T2.setTop (mkF m 36 #[.val (.long u0), .second, .val (.long u1), .second, .val (.int u2), .val (.long (9223372036854775806 : Int64)), .second, .val (.long (f1 u0)), .second, .val (.long (f1 u1)), .second, .unset, .unset, .unset, .unset] [(.long (Int32.toInt64 ((u2 >>> ((1 : Int32) &&& 31)) &&& (3 : Int32)))), (.long ((9223372036854775806 : Int64) - (f1 u0)))]))
    refine OEnds.pre (fun t k => XT.ladd X2.here hx rfl (hb hby at_36) rfl k) ?_
    show OEnds p e below s _ _ _ (T2.setTop (mkF m 37 #[.val (.long u0), .second, .val (.long u1), .second, .val (.int u2), .val (.long (9223372036854775806 : Int64)), .second, .val (.long (f1 u0)), .second, .val (.long (f1 u1)), .second, .unset, .unset, .unset, .unset] [(.long (((9223372036854775806 : Int64) - (f1 u0)) + (Int32.toInt64 ((u2 >>> ((1 : Int32) &&& 31)) &&& (3 : Int32)))))]))
    refine OEnds.pre (fun t k => Jvm.Stand.ldc2J X2 hx hown (mvT hZ (hw _ (List.mem_of_getElem? (i := 15) rfl))) rfl (hb hby at_37) k) ?_
    show OEnds p e below s _ _ _ (T2.setTop (mkF m 40 #[.val (.long u0), .second, .val (.long u1), .second, .val (.int u2), .val (.long (9223372036854775806 : Int64)), .second, .val (.long (f1 u0)), .second, .val (.long (f1 u1)), .second, .unset, .unset, .unset, .unset] [(.long (2 : Int64)), (.long (((9223372036854775806 : Int64) - (f1 u0)) + (Int32.toInt64 ((u2 >>> ((1 : Int32) &&& 31)) &&& (3 : Int32)))))]))
    refine OEnds.pre (fun t k => XT.lsub X2.here hx rfl (hb hby at_40) rfl k) ?_
    show OEnds p e below s _ _ _ (T2.setTop (mkF m 41 #[.val (.long u0), .second, .val (.long u1), .second, .val (.int u2), .val (.long (9223372036854775806 : Int64)), .second, .val (.long (f1 u0)), .second, .val (.long (f1 u1)), .second, .unset, .unset, .unset, .unset] [(.long ((((9223372036854775806 : Int64) - (f1 u0)) + (Int32.toInt64 ((u2 >>> ((1 : Int32) &&& 31)) &&& (3 : Int32)))) - (2 : Int64)))]))
    refine OEnds.pre (fun t k => XT.lstore X2.here hx rfl (hb hby at_41) rfl (l' := #[.val (.long u0), .second, .val (.long u1), .second, .val (.int u2), .val (.long (9223372036854775806 : Int64)), .second, .val (.long (f1 u0)), .second, .val (.long (f1 u1)), .second, .val (.long ((((9223372036854775806 : Int64) - (f1 u0)) + (Int32.toInt64 ((u2 >>> ((1 : Int32) &&& 31)) &&& (3 : Int32)))) - (2 : Int64))), .second, .unset, .unset]) rfl k) ?_
    show OEnds p e below s _ _ _ (T2.setTop (mkF m 43 #[.val (.long u0), .second, .val (.long u1), .second, .val (.int u2), .val (.long (9223372036854775806 : Int64)), .second, .val (.long (f1 u0)), .second, .val (.long (f1 u1)), .second, .val (.long ((((9223372036854775806 : Int64) - (f1 u0)) + (Int32.toInt64 ((u2 >>> ((1 : Int32) &&& 31)) &&& (3 : Int32)))) - (2 : Int64))), .second, .unset, .unset] []))
    refine OEnds.pre (fun t k => XT.lconstV X2.here hx rfl (0 : Int64) (hb hby at_43) rfl k) ?_
    show OEnds p e below s _ _ _ (T2.setTop (mkF m 44 #[.val (.long u0), .second, .val (.long u1), .second, .val (.int u2), .val (.long (9223372036854775806 : Int64)), .second, .val (.long (f1 u0)), .second, .val (.long (f1 u1)), .second, .val (.long ((((9223372036854775806 : Int64) - (f1 u0)) + (Int32.toInt64 ((u2 >>> ((1 : Int32) &&& 31)) &&& (3 : Int32)))) - (2 : Int64))), .second, .unset, .unset] [(.long (0 : Int64))]))
    refine OEnds.pre (fun t k => XT.lload X2.here hx rfl (hb hby at_44) rfl k) ?_
    show OEnds p e below s _ _ _ (T2.setTop (mkF m 46 #[.val (.long u0), .second, .val (.long u1), .second, .val (.int u2), .val (.long (9223372036854775806 : Int64)), .second, .val (.long (f1 u0)), .second, .val (.long (f1 u1)), .second, .val (.long ((((9223372036854775806 : Int64) - (f1 u0)) + (Int32.toInt64 ((u2 >>> ((1 : Int32) &&& 31)) &&& (3 : Int32)))) - (2 : Int64))), .second, .unset, .unset] [(.long ((((9223372036854775806 : Int64) - (f1 u0)) + (Int32.toInt64 ((u2 >>> ((1 : Int32) &&& 31)) &&& (3 : Int32)))) - (2 : Int64))), (.long (0 : Int64))]))
    refine OEnds.pre (fun t k => XT.lload X2.here hx rfl (hb hby at_46) rfl k) ?_
    show OEnds p e below s _ _ _ (T2.setTop (mkF m 48 #[.val (.long u0), .second, .val (.long u1), .second, .val (.int u2), .val (.long (9223372036854775806 : Int64)), .second, .val (.long (f1 u0)), .second, .val (.long (f1 u1)), .second, .val (.long ((((9223372036854775806 : Int64) - (f1 u0)) + (Int32.toInt64 ((u2 >>> ((1 : Int32) &&& 31)) &&& (3 : Int32)))) - (2 : Int64))), .second, .unset, .unset] [(.long (9223372036854775806 : Int64)), (.long ((((9223372036854775806 : Int64) - (f1 u0)) + (Int32.toInt64 ((u2 >>> ((1 : Int32) &&& 31)) &&& (3 : Int32)))) - (2 : Int64))), (.long (0 : Int64))]))
    obtain ⟨T6, X6, e6, st6⟩ := callPure X2 hx hZ (y := (⟨"java/lang/Math", "min", "(JJ)J"⟩ : MethodName)) (v := (.long (f2 ((((9223372036854775806 : Int64) - (f1 u0)) + (Int32.toInt64 ((u2 >>> ((1 : Int32) &&& 31)) &&& (3 : Int32)))) - (2 : Int64)) (9223372036854775806 : Int64)))) (W := 2) hown (hw _ (List.mem_of_getElem? (i := 6) rfl)) (hw _ (List.mem_of_getElem? (i := 7) rfl)) (hw _ (List.mem_of_getElem? (i := 8) rfl)) (hw _ (List.mem_of_getElem? (i := 9) rfl)) (by decide) e2 (met2 l Z a0 hw [] ((((9223372036854775806 : Int64) - (f1 u0)) + (Int32.toInt64 ((u2 >>> ((1 : Int32) &&& 31)) &&& (3 : Int32)))) - (2 : Int64)) (9223372036854775806 : Int64) h0) rfl rfl (by decide) (by decide) (pc := 48) (Ls := #[.val (.long u0), .second, .val (.long u1), .second, .val (.int u2), .val (.long (9223372036854775806 : Int64)), .second, .val (.long (f1 u0)), .second, .val (.long (f1 u1)), .second, .val (.long ((((9223372036854775806 : Int64) - (f1 u0)) + (Int32.toInt64 ((u2 >>> ((1 : Int32) &&& 31)) &&& (3 : Int32)))) - (2 : Int64))), .second, .unset, .unset]) (argsL := [(.long ((((9223372036854775806 : Int64) - (f1 u0)) + (Int32.toInt64 ((u2 >>> ((1 : Int32) &&& 31)) &&& (3 : Int32)))) - (2 : Int64))), (.long (9223372036854775806 : Int64))]) (rest := [(.long (0 : Int64))]) (by rw [hml]; rfl) (lenOf pd_2 rfl) rfl (Nat.le_of_eq rfl) (hb hby at_48) (by decide) (by decide)
    refine OEnds.pre (fun t k => st6 _ k) ?_
    show OEnds p e below s _ _ _ (T6.setTop (mkF m 51 #[.val (.long u0), .second, .val (.long u1), .second, .val (.int u2), .val (.long (9223372036854775806 : Int64)), .second, .val (.long (f1 u0)), .second, .val (.long (f1 u1)), .second, .val (.long ((((9223372036854775806 : Int64) - (f1 u0)) + (Int32.toInt64 ((u2 >>> ((1 : Int32) &&& 31)) &&& (3 : Int32)))) - (2 : Int64))), .second, .unset, .unset] [(.long (f2 ((((9223372036854775806 : Int64) - (f1 u0)) + (Int32.toInt64 ((u2 >>> ((1 : Int32) &&& 31)) &&& (3 : Int32)))) - (2 : Int64)) (9223372036854775806 : Int64))), (.long (0 : Int64))]))
    obtain ⟨T7, X7, e7, st7⟩ := callPure X6 hx hZ (y := (⟨"java/lang/Math", "max", "(JJ)J"⟩ : MethodName)) (v := (.long (f4 (0 : Int64) (f2 ((((9223372036854775806 : Int64) - (f1 u0)) + (Int32.toInt64 ((u2 >>> ((1 : Int32) &&& 31)) &&& (3 : Int32)))) - (2 : Int64)) (9223372036854775806 : Int64))))) (W := 0) hown (hw _ (List.mem_of_getElem? (i := 16) rfl)) (hw _ (List.mem_of_getElem? (i := 17) rfl)) (hw _ (List.mem_of_getElem? (i := 8) rfl)) (hw _ (List.mem_of_getElem? (i := 18) rfl)) (by decide) e6 (met4 l Z a0 hw [] (0 : Int64) (f2 ((((9223372036854775806 : Int64) - (f1 u0)) + (Int32.toInt64 ((u2 >>> ((1 : Int32) &&& 31)) &&& (3 : Int32)))) - (2 : Int64)) (9223372036854775806 : Int64)) h0) rfl rfl (by decide) (by decide) (pc := 51) (Ls := #[.val (.long u0), .second, .val (.long u1), .second, .val (.int u2), .val (.long (9223372036854775806 : Int64)), .second, .val (.long (f1 u0)), .second, .val (.long (f1 u1)), .second, .val (.long ((((9223372036854775806 : Int64) - (f1 u0)) + (Int32.toInt64 ((u2 >>> ((1 : Int32) &&& 31)) &&& (3 : Int32)))) - (2 : Int64))), .second, .unset, .unset]) (argsL := [(.long (0 : Int64)), (.long (f2 ((((9223372036854775806 : Int64) - (f1 u0)) + (Int32.toInt64 ((u2 >>> ((1 : Int32) &&& 31)) &&& (3 : Int32)))) - (2 : Int64)) (9223372036854775806 : Int64)))]) (rest := []) (by rw [hml]; rfl) (lenOf pd_4 rfl) rfl (Nat.le_of_eq rfl) (hb hby at_51) (by decide) (by decide)
    refine OEnds.pre (fun t k => st7 _ k) ?_
    show OEnds p e below s _ _ _ (T7.setTop (mkF m 54 #[.val (.long u0), .second, .val (.long u1), .second, .val (.int u2), .val (.long (9223372036854775806 : Int64)), .second, .val (.long (f1 u0)), .second, .val (.long (f1 u1)), .second, .val (.long ((((9223372036854775806 : Int64) - (f1 u0)) + (Int32.toInt64 ((u2 >>> ((1 : Int32) &&& 31)) &&& (3 : Int32)))) - (2 : Int64))), .second, .unset, .unset] [(.long (f4 (0 : Int64) (f2 ((((9223372036854775806 : Int64) - (f1 u0)) + (Int32.toInt64 ((u2 >>> ((1 : Int32) &&& 31)) &&& (3 : Int32)))) - (2 : Int64)) (9223372036854775806 : Int64))))]))
    refine OEnds.pre (fun t k => XT.lstore X7.here hx rfl (hb hby at_54) rfl (l' := #[.val (.long u0), .second, .val (.long u1), .second, .val (.int u2), .val (.long (9223372036854775806 : Int64)), .second, .val (.long (f1 u0)), .second, .val (.long (f4 (0 : Int64) (f2 ((((9223372036854775806 : Int64) - (f1 u0)) + (Int32.toInt64 ((u2 >>> ((1 : Int32) &&& 31)) &&& (3 : Int32)))) - (2 : Int64)) (9223372036854775806 : Int64)))), .second, .val (.long ((((9223372036854775806 : Int64) - (f1 u0)) + (Int32.toInt64 ((u2 >>> ((1 : Int32) &&& 31)) &&& (3 : Int32)))) - (2 : Int64))), .second, .unset, .unset]) rfl k) ?_
    show OEnds p e below s _ _ _ (T7.setTop (mkF m 56 #[.val (.long u0), .second, .val (.long u1), .second, .val (.int u2), .val (.long (9223372036854775806 : Int64)), .second, .val (.long (f1 u0)), .second, .val (.long (f4 (0 : Int64) (f2 ((((9223372036854775806 : Int64) - (f1 u0)) + (Int32.toInt64 ((u2 >>> ((1 : Int32) &&& 31)) &&& (3 : Int32)))) - (2 : Int64)) (9223372036854775806 : Int64)))), .second, .val (.long ((((9223372036854775806 : Int64) - (f1 u0)) + (Int32.toInt64 ((u2 >>> ((1 : Int32) &&& 31)) &&& (3 : Int32)))) - (2 : Int64))), .second, .unset, .unset] []))
    refine OEnds.pre (fun t k => XT.lload X7.here hx rfl (hb hby at_56) rfl k) ?_
    show OEnds p e below s _ _ _ (T7.setTop (mkF m 58 #[.val (.long u0), .second, .val (.long u1), .second, .val (.int u2), .val (.long (9223372036854775806 : Int64)), .second, .val (.long (f1 u0)), .second, .val (.long (f4 (0 : Int64) (f2 ((((9223372036854775806 : Int64) - (f1 u0)) + (Int32.toInt64 ((u2 >>> ((1 : Int32) &&& 31)) &&& (3 : Int32)))) - (2 : Int64)) (9223372036854775806 : Int64)))), .second, .val (.long ((((9223372036854775806 : Int64) - (f1 u0)) + (Int32.toInt64 ((u2 >>> ((1 : Int32) &&& 31)) &&& (3 : Int32)))) - (2 : Int64))), .second, .unset, .unset] [(.long (f1 u0))]))
    refine OEnds.pre (fun t k => XT.lload X7.here hx rfl (hb hby at_58) rfl k) ?_
    show OEnds p e below s _ _ _ (T7.setTop (mkF m 60 #[.val (.long u0), .second, .val (.long u1), .second, .val (.int u2), .val (.long (9223372036854775806 : Int64)), .second, .val (.long (f1 u0)), .second, .val (.long (f4 (0 : Int64) (f2 ((((9223372036854775806 : Int64) - (f1 u0)) + (Int32.toInt64 ((u2 >>> ((1 : Int32) &&& 31)) &&& (3 : Int32)))) - (2 : Int64)) (9223372036854775806 : Int64)))), .second, .val (.long ((((9223372036854775806 : Int64) - (f1 u0)) + (Int32.toInt64 ((u2 >>> ((1 : Int32) &&& 31)) &&& (3 : Int32)))) - (2 : Int64))), .second, .unset, .unset] [(.long (f4 (0 : Int64) (f2 ((((9223372036854775806 : Int64) - (f1 u0)) + (Int32.toInt64 ((u2 >>> ((1 : Int32) &&& 31)) &&& (3 : Int32)))) - (2 : Int64)) (9223372036854775806 : Int64)))), (.long (f1 u0))]))
    refine OEnds.pre (fun t k => XT.ladd X7.here hx rfl (hb hby at_60) rfl k) ?_
    show OEnds p e below s _ _ _ (T7.setTop (mkF m 61 #[.val (.long u0), .second, .val (.long u1), .second, .val (.int u2), .val (.long (9223372036854775806 : Int64)), .second, .val (.long (f1 u0)), .second, .val (.long (f4 (0 : Int64) (f2 ((((9223372036854775806 : Int64) - (f1 u0)) + (Int32.toInt64 ((u2 >>> ((1 : Int32) &&& 31)) &&& (3 : Int32)))) - (2 : Int64)) (9223372036854775806 : Int64)))), .second, .val (.long ((((9223372036854775806 : Int64) - (f1 u0)) + (Int32.toInt64 ((u2 >>> ((1 : Int32) &&& 31)) &&& (3 : Int32)))) - (2 : Int64))), .second, .unset, .unset] [(.long ((f1 u0) + (f4 (0 : Int64) (f2 ((((9223372036854775806 : Int64) - (f1 u0)) + (Int32.toInt64 ((u2 >>> ((1 : Int32) &&& 31)) &&& (3 : Int32)))) - (2 : Int64)) (9223372036854775806 : Int64)))))]))
    refine OEnds.pre (fun t k => XT.lstore X7.here hx rfl (hb hby at_61) rfl (l' := #[.val (.long u0), .second, .val (.long u1), .second, .val (.int u2), .val (.long (9223372036854775806 : Int64)), .second, .val (.long (f1 u0)), .second, .val (.long (f4 (0 : Int64) (f2 ((((9223372036854775806 : Int64) - (f1 u0)) + (Int32.toInt64 ((u2 >>> ((1 : Int32) &&& 31)) &&& (3 : Int32)))) - (2 : Int64)) (9223372036854775806 : Int64)))), .second, .val (.long ((f1 u0) + (f4 (0 : Int64) (f2 ((((9223372036854775806 : Int64) - (f1 u0)) + (Int32.toInt64 ((u2 >>> ((1 : Int32) &&& 31)) &&& (3 : Int32)))) - (2 : Int64)) (9223372036854775806 : Int64))))), .second, .unset, .unset]) rfl k) ?_
    show OEnds p e below s _ _ _ (T7.setTop (mkF m 63 #[.val (.long u0), .second, .val (.long u1), .second, .val (.int u2), .val (.long (9223372036854775806 : Int64)), .second, .val (.long (f1 u0)), .second, .val (.long (f4 (0 : Int64) (f2 ((((9223372036854775806 : Int64) - (f1 u0)) + (Int32.toInt64 ((u2 >>> ((1 : Int32) &&& 31)) &&& (3 : Int32)))) - (2 : Int64)) (9223372036854775806 : Int64)))), .second, .val (.long ((f1 u0) + (f4 (0 : Int64) (f2 ((((9223372036854775806 : Int64) - (f1 u0)) + (Int32.toInt64 ((u2 >>> ((1 : Int32) &&& 31)) &&& (3 : Int32)))) - (2 : Int64)) (9223372036854775806 : Int64))))), .second, .unset, .unset] []))
    refine OEnds.pre (fun t k => XT.lload X7.here hx rfl (hb hby at_63) rfl k) ?_
    show OEnds p e below s _ _ _ (T7.setTop (mkF m 65 #[.val (.long u0), .second, .val (.long u1), .second, .val (.int u2), .val (.long (9223372036854775806 : Int64)), .second, .val (.long (f1 u0)), .second, .val (.long (f4 (0 : Int64) (f2 ((((9223372036854775806 : Int64) - (f1 u0)) + (Int32.toInt64 ((u2 >>> ((1 : Int32) &&& 31)) &&& (3 : Int32)))) - (2 : Int64)) (9223372036854775806 : Int64)))), .second, .val (.long ((f1 u0) + (f4 (0 : Int64) (f2 ((((9223372036854775806 : Int64) - (f1 u0)) + (Int32.toInt64 ((u2 >>> ((1 : Int32) &&& 31)) &&& (3 : Int32)))) - (2 : Int64)) (9223372036854775806 : Int64))))), .second, .unset, .unset] [(.long ((f1 u0) + (f4 (0 : Int64) (f2 ((((9223372036854775806 : Int64) - (f1 u0)) + (Int32.toInt64 ((u2 >>> ((1 : Int32) &&& 31)) &&& (3 : Int32)))) - (2 : Int64)) (9223372036854775806 : Int64)))))]))
    refine OEnds.pre (fun t k => XT.lconstV X7.here hx rfl (0 : Int64) (hb hby at_65) rfl k) ?_
    show OEnds p e below s _ _ _ (T7.setTop (mkF m 66 #[.val (.long u0), .second, .val (.long u1), .second, .val (.int u2), .val (.long (9223372036854775806 : Int64)), .second, .val (.long (f1 u0)), .second, .val (.long (f4 (0 : Int64) (f2 ((((9223372036854775806 : Int64) - (f1 u0)) + (Int32.toInt64 ((u2 >>> ((1 : Int32) &&& 31)) &&& (3 : Int32)))) - (2 : Int64)) (9223372036854775806 : Int64)))), .second, .val (.long ((f1 u0) + (f4 (0 : Int64) (f2 ((((9223372036854775806 : Int64) - (f1 u0)) + (Int32.toInt64 ((u2 >>> ((1 : Int32) &&& 31)) &&& (3 : Int32)))) - (2 : Int64)) (9223372036854775806 : Int64))))), .second, .unset, .unset] [(.long (0 : Int64)), (.long ((f1 u0) + (f4 (0 : Int64) (f2 ((((9223372036854775806 : Int64) - (f1 u0)) + (Int32.toInt64 ((u2 >>> ((1 : Int32) &&& 31)) &&& (3 : Int32)))) - (2 : Int64)) (9223372036854775806 : Int64)))))]))
    refine OEnds.pre (fun t k => XT.lcmp X7.here hx rfl (hb hby at_66) rfl k) ?_
    show OEnds p e below s _ _ _ (T7.setTop (mkF m 67 #[.val (.long u0), .second, .val (.long u1), .second, .val (.int u2), .val (.long (9223372036854775806 : Int64)), .second, .val (.long (f1 u0)), .second, .val (.long (f4 (0 : Int64) (f2 ((((9223372036854775806 : Int64) - (f1 u0)) + (Int32.toInt64 ((u2 >>> ((1 : Int32) &&& 31)) &&& (3 : Int32)))) - (2 : Int64)) (9223372036854775806 : Int64)))), .second, .val (.long ((f1 u0) + (f4 (0 : Int64) (f2 ((((9223372036854775806 : Int64) - (f1 u0)) + (Int32.toInt64 ((u2 >>> ((1 : Int32) &&& 31)) &&& (3 : Int32)))) - (2 : Int64)) (9223372036854775806 : Int64))))), .second, .unset, .unset] [(.int (XT.cmpL ((f1 u0) + (f4 (0 : Int64) (f2 ((((9223372036854775806 : Int64) - (f1 u0)) + (Int32.toInt64 ((u2 >>> ((1 : Int32) &&& 31)) &&& (3 : Int32)))) - (2 : Int64)) (9223372036854775806 : Int64)))) (0 : Int64)))]))
    by_cases c2 : ((f1 u0) + (f4 (0 : Int64) (f2 ((((9223372036854775806 : Int64) - (f1 u0)) + (Int32.toInt64 ((u2 >>> ((1 : Int32) &&& 31)) &&& (3 : Int32)))) - (2 : Int64)) (9223372036854775806 : Int64)))) < (0 : Int64)
    · refine OEnds.pre (fun t k => XS.ifYes X7.here hx rfl (pc0 := 67) (pc' := 78) rfl (hb hby at_67) rfl (XT.ll_lt_t c2) (by decide) (by decide) k) ?_
      show OEnds p e below s _ _ _ (T7.setTop (mkF m 78 #[.val (.long u0), .second, .val (.long u1), .second, .val (.int u2), .val (.long (9223372036854775806 : Int64)), .second, .val (.long (f1 u0)), .second, .val (.long (f4 (0 : Int64) (f2 ((((9223372036854775806 : Int64) - (f1 u0)) + (Int32.toInt64 ((u2 >>> ((1 : Int32) &&& 31)) &&& (3 : Int32)))) - (2 : Int64)) (9223372036854775806 : Int64)))), .second, .val (.long ((f1 u0) + (f4 (0 : Int64) (f2 ((((9223372036854775806 : Int64) - (f1 u0)) + (Int32.toInt64 ((u2 >>> ((1 : Int32) &&& 31)) &&& (3 : Int32)))) - (2 : Int64)) (9223372036854775806 : Int64))))), .second, .unset, .unset] []))
      refine OEnds.pre (fun t k => XT.lload X7.here hx rfl (hb hby at_78) rfl k) ?_
      show OEnds p e below s _ _ _ (T7.setTop (mkF m 80 #[.val (.long u0), .second, .val (.long u1), .second, .val (.int u2), .val (.long (9223372036854775806 : Int64)), .second, .val (.long (f1 u0)), .second, .val (.long (f4 (0 : Int64) (f2 ((((9223372036854775806 : Int64) - (f1 u0)) + (Int32.toInt64 ((u2 >>> ((1 : Int32) &&& 31)) &&& (3 : Int32)))) - (2 : Int64)) (9223372036854775806 : Int64)))), .second, .val (.long ((f1 u0) + (f4 (0 : Int64) (f2 ((((9223372036854775806 : Int64) - (f1 u0)) + (Int32.toInt64 ((u2 >>> ((1 : Int32) &&& 31)) &&& (3 : Int32)))) - (2 : Int64)) (9223372036854775806 : Int64))))), .second, .unset, .unset] [(.long (9223372036854775806 : Int64))]))
      refine OEnds.pre (fun t k => XS.goto X7.here hx rfl (pc0 := 80) (pc' := 85) rfl (hb hby at_80) (by decide) (by decide) k) ?_
      show OEnds p e below s _ _ _ (T7.setTop (mkF m 85 #[.val (.long u0), .second, .val (.long u1), .second, .val (.int u2), .val (.long (9223372036854775806 : Int64)), .second, .val (.long (f1 u0)), .second, .val (.long (f4 (0 : Int64) (f2 ((((9223372036854775806 : Int64) - (f1 u0)) + (Int32.toInt64 ((u2 >>> ((1 : Int32) &&& 31)) &&& (3 : Int32)))) - (2 : Int64)) (9223372036854775806 : Int64)))), .second, .val (.long ((f1 u0) + (f4 (0 : Int64) (f2 ((((9223372036854775806 : Int64) - (f1 u0)) + (Int32.toInt64 ((u2 >>> ((1 : Int32) &&& 31)) &&& (3 : Int32)))) - (2 : Int64)) (9223372036854775806 : Int64))))), .second, .unset, .unset] [(.long (9223372036854775806 : Int64))]))
      refine OEnds.pre (fun t k => XT.lstore X7.here hx rfl (hb hby at_85) rfl (l' := #[.val (.long u0), .second, .val (.long u1), .second, .val (.int u2), .val (.long (9223372036854775806 : Int64)), .second, .val (.long (f1 u0)), .second, .val (.long (f4 (0 : Int64) (f2 ((((9223372036854775806 : Int64) - (f1 u0)) + (Int32.toInt64 ((u2 >>> ((1 : Int32) &&& 31)) &&& (3 : Int32)))) - (2 : Int64)) (9223372036854775806 : Int64)))), .second, .val (.long ((f1 u0) + (f4 (0 : Int64) (f2 ((((9223372036854775806 : Int64) - (f1 u0)) + (Int32.toInt64 ((u2 >>> ((1 : Int32) &&& 31)) &&& (3 : Int32)))) - (2 : Int64)) (9223372036854775806 : Int64))))), .second, .val (.long (9223372036854775806 : Int64)), .second]) rfl k) ?_
      show OEnds p e below s _ _ _ (T7.setTop (mkF m 87 #[.val (.long u0), .second, .val (.long u1), .second, .val (.int u2), .val (.long (9223372036854775806 : Int64)), .second, .val (.long (f1 u0)), .second, .val (.long (f4 (0 : Int64) (f2 ((((9223372036854775806 : Int64) - (f1 u0)) + (Int32.toInt64 ((u2 >>> ((1 : Int32) &&& 31)) &&& (3 : Int32)))) - (2 : Int64)) (9223372036854775806 : Int64)))), .second, .val (.long ((f1 u0) + (f4 (0 : Int64) (f2 ((((9223372036854775806 : Int64) - (f1 u0)) + (Int32.toInt64 ((u2 >>> ((1 : Int32) &&& 31)) &&& (3 : Int32)))) - (2 : Int64)) (9223372036854775806 : Int64))))), .second, .val (.long (9223372036854775806 : Int64)), .second] []))
      refine OEnds.pre (fun t k => XT.lload X7.here hx rfl (hb hby at_87) rfl k) ?_
      show OEnds p e below s _ _ _ (T7.setTop (mkF m 89 #[.val (.long u0), .second, .val (.long u1), .second, .val (.int u2), .val (.long (9223372036854775806 : Int64)), .second, .val (.long (f1 u0)), .second, .val (.long (f4 (0 : Int64) (f2 ((((9223372036854775806 : Int64) - (f1 u0)) + (Int32.toInt64 ((u2 >>> ((1 : Int32) &&& 31)) &&& (3 : Int32)))) - (2 : Int64)) (9223372036854775806 : Int64)))), .second, .val (.long ((f1 u0) + (f4 (0 : Int64) (f2 ((((9223372036854775806 : Int64) - (f1 u0)) + (Int32.toInt64 ((u2 >>> ((1 : Int32) &&& 31)) &&& (3 : Int32)))) - (2 : Int64)) (9223372036854775806 : Int64))))), .second, .val (.long (9223372036854775806 : Int64)), .second] [(.long (f1 u0))]))
      refine OEnds.pre (fun t k => XT.lload X7.here hx rfl (hb hby at_89) rfl k) ?_
      show OEnds p e below s _ _ _ (T7.setTop (mkF m 91 #[.val (.long u0), .second, .val (.long u1), .second, .val (.int u2), .val (.long (9223372036854775806 : Int64)), .second, .val (.long (f1 u0)), .second, .val (.long (f4 (0 : Int64) (f2 ((((9223372036854775806 : Int64) - (f1 u0)) + (Int32.toInt64 ((u2 >>> ((1 : Int32) &&& 31)) &&& (3 : Int32)))) - (2 : Int64)) (9223372036854775806 : Int64)))), .second, .val (.long ((f1 u0) + (f4 (0 : Int64) (f2 ((((9223372036854775806 : Int64) - (f1 u0)) + (Int32.toInt64 ((u2 >>> ((1 : Int32) &&& 31)) &&& (3 : Int32)))) - (2 : Int64)) (9223372036854775806 : Int64))))), .second, .val (.long (9223372036854775806 : Int64)), .second] [(.long (f4 (0 : Int64) (f2 ((((9223372036854775806 : Int64) - (f1 u0)) + (Int32.toInt64 ((u2 >>> ((1 : Int32) &&& 31)) &&& (3 : Int32)))) - (2 : Int64)) (9223372036854775806 : Int64)))), (.long (f1 u0))]))
      obtain ⟨T8, X8, e8, st8⟩ := callPure X7 hx hZ (y := (⟨"com/example/equisetum/equisetum/Derivations", "sum", "(JJ)J"⟩ : MethodName)) (v := (.long (f3 (f1 u0) (f4 (0 : Int64) (f2 ((((9223372036854775806 : Int64) - (f1 u0)) + (Int32.toInt64 ((u2 >>> ((1 : Int32) &&& 31)) &&& (3 : Int32)))) - (2 : Int64)) (9223372036854775806 : Int64)))))) (W := 0) hown (hw _ (List.mem_of_getElem? (i := 10) rfl)) (hw _ (List.mem_of_getElem? (i := 11) rfl)) (hw _ (List.mem_of_getElem? (i := 12) rfl)) (hw _ (List.mem_of_getElem? (i := 13) rfl)) (by decide) e7 (met3 l Z a0 hw [] (f1 u0) (f4 (0 : Int64) (f2 ((((9223372036854775806 : Int64) - (f1 u0)) + (Int32.toInt64 ((u2 >>> ((1 : Int32) &&& 31)) &&& (3 : Int32)))) - (2 : Int64)) (9223372036854775806 : Int64))) h0) rfl rfl (by decide) (by decide) (pc := 91) (Ls := #[.val (.long u0), .second, .val (.long u1), .second, .val (.int u2), .val (.long (9223372036854775806 : Int64)), .second, .val (.long (f1 u0)), .second, .val (.long (f4 (0 : Int64) (f2 ((((9223372036854775806 : Int64) - (f1 u0)) + (Int32.toInt64 ((u2 >>> ((1 : Int32) &&& 31)) &&& (3 : Int32)))) - (2 : Int64)) (9223372036854775806 : Int64)))), .second, .val (.long ((f1 u0) + (f4 (0 : Int64) (f2 ((((9223372036854775806 : Int64) - (f1 u0)) + (Int32.toInt64 ((u2 >>> ((1 : Int32) &&& 31)) &&& (3 : Int32)))) - (2 : Int64)) (9223372036854775806 : Int64))))), .second, .val (.long (9223372036854775806 : Int64)), .second]) (argsL := [(.long (f1 u0)), (.long (f4 (0 : Int64) (f2 ((((9223372036854775806 : Int64) - (f1 u0)) + (Int32.toInt64 ((u2 >>> ((1 : Int32) &&& 31)) &&& (3 : Int32)))) - (2 : Int64)) (9223372036854775806 : Int64))))]) (rest := []) (by rw [hml]; rfl) (lenOf pd_3 rfl) rfl (Nat.le_of_eq rfl) (hb hby at_91) (by decide) (by decide)
      refine OEnds.pre (fun t k => st8 _ k) ?_
      show OEnds p e below s _ _ _ (T8.setTop (mkF m 94 #[.val (.long u0), .second, .val (.long u1), .second, .val (.int u2), .val (.long (9223372036854775806 : Int64)), .second, .val (.long (f1 u0)), .second, .val (.long (f4 (0 : Int64) (f2 ((((9223372036854775806 : Int64) - (f1 u0)) + (Int32.toInt64 ((u2 >>> ((1 : Int32) &&& 31)) &&& (3 : Int32)))) - (2 : Int64)) (9223372036854775806 : Int64)))), .second, .val (.long ((f1 u0) + (f4 (0 : Int64) (f2 ((((9223372036854775806 : Int64) - (f1 u0)) + (Int32.toInt64 ((u2 >>> ((1 : Int32) &&& 31)) &&& (3 : Int32)))) - (2 : Int64)) (9223372036854775806 : Int64))))), .second, .val (.long (9223372036854775806 : Int64)), .second] [(.long (f3 (f1 u0) (f4 (0 : Int64) (f2 ((((9223372036854775806 : Int64) - (f1 u0)) + (Int32.toInt64 ((u2 >>> ((1 : Int32) &&& 31)) &&& (3 : Int32)))) - (2 : Int64)) (9223372036854775806 : Int64)))))]))
      refine OEnds.pre (fun t k => XT.lload X8.here hx rfl (hb hby at_94) rfl k) ?_
      show OEnds p e below s _ _ _ (T8.setTop (mkF m 96 #[.val (.long u0), .second, .val (.long u1), .second, .val (.int u2), .val (.long (9223372036854775806 : Int64)), .second, .val (.long (f1 u0)), .second, .val (.long (f4 (0 : Int64) (f2 ((((9223372036854775806 : Int64) - (f1 u0)) + (Int32.toInt64 ((u2 >>> ((1 : Int32) &&& 31)) &&& (3 : Int32)))) - (2 : Int64)) (9223372036854775806 : Int64)))), .second, .val (.long ((f1 u0) + (f4 (0 : Int64) (f2 ((((9223372036854775806 : Int64) - (f1 u0)) + (Int32.toInt64 ((u2 >>> ((1 : Int32) &&& 31)) &&& (3 : Int32)))) - (2 : Int64)) (9223372036854775806 : Int64))))), .second, .val (.long (9223372036854775806 : Int64)), .second] [(.long (9223372036854775806 : Int64)), (.long (f3 (f1 u0) (f4 (0 : Int64) (f2 ((((9223372036854775806 : Int64) - (f1 u0)) + (Int32.toInt64 ((u2 >>> ((1 : Int32) &&& 31)) &&& (3 : Int32)))) - (2 : Int64)) (9223372036854775806 : Int64)))))]))
      refine OEnds.pre (fun t k => XT.lcmp X8.here hx rfl (hb hby at_96) rfl k) ?_
      show OEnds p e below s _ _ _ (T8.setTop (mkF m 97 #[.val (.long u0), .second, .val (.long u1), .second, .val (.int u2), .val (.long (9223372036854775806 : Int64)), .second, .val (.long (f1 u0)), .second, .val (.long (f4 (0 : Int64) (f2 ((((9223372036854775806 : Int64) - (f1 u0)) + (Int32.toInt64 ((u2 >>> ((1 : Int32) &&& 31)) &&& (3 : Int32)))) - (2 : Int64)) (9223372036854775806 : Int64)))), .second, .val (.long ((f1 u0) + (f4 (0 : Int64) (f2 ((((9223372036854775806 : Int64) - (f1 u0)) + (Int32.toInt64 ((u2 >>> ((1 : Int32) &&& 31)) &&& (3 : Int32)))) - (2 : Int64)) (9223372036854775806 : Int64))))), .second, .val (.long (9223372036854775806 : Int64)), .second] [(.int (XT.cmpL (f3 (f1 u0) (f4 (0 : Int64) (f2 ((((9223372036854775806 : Int64) - (f1 u0)) + (Int32.toInt64 ((u2 >>> ((1 : Int32) &&& 31)) &&& (3 : Int32)))) - (2 : Int64)) (9223372036854775806 : Int64)))) (9223372036854775806 : Int64)))]))
      by_cases c3 : (f3 (f1 u0) (f4 (0 : Int64) (f2 ((((9223372036854775806 : Int64) - (f1 u0)) + (Int32.toInt64 ((u2 >>> ((1 : Int32) &&& 31)) &&& (3 : Int32)))) - (2 : Int64)) (9223372036854775806 : Int64)))) = (9223372036854775806 : Int64)
      · refine OEnds.pre (fun t k => XS.ifNo X8.here hx rfl (hb hby at_97) rfl (XT.ll_ne_f c3) k) ?_
        show OEnds p e below s _ _ _ (T8.setTop (mkF m 100 #[.val (.long u0), .second, .val (.long u1), .second, .val (.int u2), .val (.long (9223372036854775806 : Int64)), .second, .val (.long (f1 u0)), .second, .val (.long (f4 (0 : Int64) (f2 ((((9223372036854775806 : Int64) - (f1 u0)) + (Int32.toInt64 ((u2 >>> ((1 : Int32) &&& 31)) &&& (3 : Int32)))) - (2 : Int64)) (9223372036854775806 : Int64)))), .second, .val (.long ((f1 u0) + (f4 (0 : Int64) (f2 ((((9223372036854775806 : Int64) - (f1 u0)) + (Int32.toInt64 ((u2 >>> ((1 : Int32) &&& 31)) &&& (3 : Int32)))) - (2 : Int64)) (9223372036854775806 : Int64))))), .second, .val (.long (9223372036854775806 : Int64)), .second] []))
        refine OEnds.pre (fun t k => XT.iconstV X8.here hx rfl (1 : Int32) (hb hby at_100) rfl k) ?_
        show OEnds p e below s _ _ _ (T8.setTop (mkF m 101 #[.val (.long u0), .second, .val (.long u1), .second, .val (.int u2), .val (.long (9223372036854775806 : Int64)), .second, .val (.long (f1 u0)), .second, .val (.long (f4 (0 : Int64) (f2 ((((9223372036854775806 : Int64) - (f1 u0)) + (Int32.toInt64 ((u2 >>> ((1 : Int32) &&& 31)) &&& (3 : Int32)))) - (2 : Int64)) (9223372036854775806 : Int64)))), .second, .val (.long ((f1 u0) + (f4 (0 : Int64) (f2 ((((9223372036854775806 : Int64) - (f1 u0)) + (Int32.toInt64 ((u2 >>> ((1 : Int32) &&& 31)) &&& (3 : Int32)))) - (2 : Int64)) (9223372036854775806 : Int64))))), .second, .val (.long (9223372036854775806 : Int64)), .second] [(.int (1 : Int32))]))
        refine OEnds.pre (fun t k => XS.goto X8.here hx rfl (pc0 := 101) (pc' := 105) rfl (hb hby at_101) (by decide) (by decide) k) ?_
        show OEnds p e below s _ _ _ (T8.setTop (mkF m 105 #[.val (.long u0), .second, .val (.long u1), .second, .val (.int u2), .val (.long (9223372036854775806 : Int64)), .second, .val (.long (f1 u0)), .second, .val (.long (f4 (0 : Int64) (f2 ((((9223372036854775806 : Int64) - (f1 u0)) + (Int32.toInt64 ((u2 >>> ((1 : Int32) &&& 31)) &&& (3 : Int32)))) - (2 : Int64)) (9223372036854775806 : Int64)))), .second, .val (.long ((f1 u0) + (f4 (0 : Int64) (f2 ((((9223372036854775806 : Int64) - (f1 u0)) + (Int32.toInt64 ((u2 >>> ((1 : Int32) &&& 31)) &&& (3 : Int32)))) - (2 : Int64)) (9223372036854775806 : Int64))))), .second, .val (.long (9223372036854775806 : Int64)), .second] [(.int (1 : Int32))]))
        exact OEnds.nrw X8 hx Bd.notSynchronized Bd.returns (by simp) (hb hby at_105) (Nat.zero_le _) (Nat.zero_le _) ⟨congrArg (fun q => some (Value.int q)) (show (1 : Int32) = _ from by unfold f0; rw [if_neg c1, if_pos c2, if_pos c3]), rfl, e8⟩
      · refine OEnds.pre (fun t k => XS.ifYes X8.here hx rfl (pc0 := 97) (pc' := 104) rfl (hb hby at_97) rfl (XT.ll_ne_t c3) (by decide) (by decide) k) ?_
        show OEnds p e below s _ _ _ (T8.setTop (mkF m 104 #[.val (.long u0), .second, .val (.long u1), .second, .val (.int u2), .val (.long (9223372036854775806 : Int64)), .second, .val (.long (f1 u0)), .second, .val (.long (f4 (0 : Int64) (f2 ((((9223372036854775806 : Int64) - (f1 u0)) + (Int32.toInt64 ((u2 >>> ((1 : Int32) &&& 31)) &&& (3 : Int32)))) - (2 : Int64)) (9223372036854775806 : Int64)))), .second, .val (.long ((f1 u0) + (f4 (0 : Int64) (f2 ((((9223372036854775806 : Int64) - (f1 u0)) + (Int32.toInt64 ((u2 >>> ((1 : Int32) &&& 31)) &&& (3 : Int32)))) - (2 : Int64)) (9223372036854775806 : Int64))))), .second, .val (.long (9223372036854775806 : Int64)), .second] []))
        refine OEnds.pre (fun t k => XT.iconstV X8.here hx rfl (0 : Int32) (hb hby at_104) rfl k) ?_
        show OEnds p e below s _ _ _ (T8.setTop (mkF m 105 #[.val (.long u0), .second, .val (.long u1), .second, .val (.int u2), .val (.long (9223372036854775806 : Int64)), .second, .val (.long (f1 u0)), .second, .val (.long (f4 (0 : Int64) (f2 ((((9223372036854775806 : Int64) - (f1 u0)) + (Int32.toInt64 ((u2 >>> ((1 : Int32) &&& 31)) &&& (3 : Int32)))) - (2 : Int64)) (9223372036854775806 : Int64)))), .second, .val (.long ((f1 u0) + (f4 (0 : Int64) (f2 ((((9223372036854775806 : Int64) - (f1 u0)) + (Int32.toInt64 ((u2 >>> ((1 : Int32) &&& 31)) &&& (3 : Int32)))) - (2 : Int64)) (9223372036854775806 : Int64))))), .second, .val (.long (9223372036854775806 : Int64)), .second] [(.int (0 : Int32))]))
        exact OEnds.nrw X8 hx Bd.notSynchronized Bd.returns (by simp) (hb hby at_105) (Nat.zero_le _) (Nat.zero_le _) ⟨congrArg (fun q => some (Value.int q)) (show (0 : Int32) = _ from by unfold f0; rw [if_neg c1, if_pos c2, if_neg c3]), rfl, e8⟩
    · refine OEnds.pre (fun t k => XS.ifNo X7.here hx rfl (hb hby at_67) rfl (XT.ll_lt_f c2) k) ?_
      show OEnds p e below s _ _ _ (T7.setTop (mkF m 70 #[.val (.long u0), .second, .val (.long u1), .second, .val (.int u2), .val (.long (9223372036854775806 : Int64)), .second, .val (.long (f1 u0)), .second, .val (.long (f4 (0 : Int64) (f2 ((((9223372036854775806 : Int64) - (f1 u0)) + (Int32.toInt64 ((u2 >>> ((1 : Int32) &&& 31)) &&& (3 : Int32)))) - (2 : Int64)) (9223372036854775806 : Int64)))), .second, .val (.long ((f1 u0) + (f4 (0 : Int64) (f2 ((((9223372036854775806 : Int64) - (f1 u0)) + (Int32.toInt64 ((u2 >>> ((1 : Int32) &&& 31)) &&& (3 : Int32)))) - (2 : Int64)) (9223372036854775806 : Int64))))), .second, .unset, .unset] []))
      refine OEnds.pre (fun t k => XT.lload X7.here hx rfl (hb hby at_70) rfl k) ?_
      show OEnds p e below s _ _ _ (T7.setTop (mkF m 72 #[.val (.long u0), .second, .val (.long u1), .second, .val (.int u2), .val (.long (9223372036854775806 : Int64)), .second, .val (.long (f1 u0)), .second, .val (.long (f4 (0 : Int64) (f2 ((((9223372036854775806 : Int64) - (f1 u0)) + (Int32.toInt64 ((u2 >>> ((1 : Int32) &&& 31)) &&& (3 : Int32)))) - (2 : Int64)) (9223372036854775806 : Int64)))), .second, .val (.long ((f1 u0) + (f4 (0 : Int64) (f2 ((((9223372036854775806 : Int64) - (f1 u0)) + (Int32.toInt64 ((u2 >>> ((1 : Int32) &&& 31)) &&& (3 : Int32)))) - (2 : Int64)) (9223372036854775806 : Int64))))), .second, .unset, .unset] [(.long ((f1 u0) + (f4 (0 : Int64) (f2 ((((9223372036854775806 : Int64) - (f1 u0)) + (Int32.toInt64 ((u2 >>> ((1 : Int32) &&& 31)) &&& (3 : Int32)))) - (2 : Int64)) (9223372036854775806 : Int64)))))]))
      refine OEnds.pre (fun t k => XT.lload X7.here hx rfl (hb hby at_72) rfl k) ?_
      show OEnds p e below s _ _ _ (T7.setTop (mkF m 74 #[.val (.long u0), .second, .val (.long u1), .second, .val (.int u2), .val (.long (9223372036854775806 : Int64)), .second, .val (.long (f1 u0)), .second, .val (.long (f4 (0 : Int64) (f2 ((((9223372036854775806 : Int64) - (f1 u0)) + (Int32.toInt64 ((u2 >>> ((1 : Int32) &&& 31)) &&& (3 : Int32)))) - (2 : Int64)) (9223372036854775806 : Int64)))), .second, .val (.long ((f1 u0) + (f4 (0 : Int64) (f2 ((((9223372036854775806 : Int64) - (f1 u0)) + (Int32.toInt64 ((u2 >>> ((1 : Int32) &&& 31)) &&& (3 : Int32)))) - (2 : Int64)) (9223372036854775806 : Int64))))), .second, .unset, .unset] [(.long (9223372036854775806 : Int64)), (.long ((f1 u0) + (f4 (0 : Int64) (f2 ((((9223372036854775806 : Int64) - (f1 u0)) + (Int32.toInt64 ((u2 >>> ((1 : Int32) &&& 31)) &&& (3 : Int32)))) - (2 : Int64)) (9223372036854775806 : Int64)))))]))
      refine OEnds.pre (fun t k => XT.lcmp X7.here hx rfl (hb hby at_74) rfl k) ?_
      show OEnds p e below s _ _ _ (T7.setTop (mkF m 75 #[.val (.long u0), .second, .val (.long u1), .second, .val (.int u2), .val (.long (9223372036854775806 : Int64)), .second, .val (.long (f1 u0)), .second, .val (.long (f4 (0 : Int64) (f2 ((((9223372036854775806 : Int64) - (f1 u0)) + (Int32.toInt64 ((u2 >>> ((1 : Int32) &&& 31)) &&& (3 : Int32)))) - (2 : Int64)) (9223372036854775806 : Int64)))), .second, .val (.long ((f1 u0) + (f4 (0 : Int64) (f2 ((((9223372036854775806 : Int64) - (f1 u0)) + (Int32.toInt64 ((u2 >>> ((1 : Int32) &&& 31)) &&& (3 : Int32)))) - (2 : Int64)) (9223372036854775806 : Int64))))), .second, .unset, .unset] [(.int (XT.cmpL ((f1 u0) + (f4 (0 : Int64) (f2 ((((9223372036854775806 : Int64) - (f1 u0)) + (Int32.toInt64 ((u2 >>> ((1 : Int32) &&& 31)) &&& (3 : Int32)))) - (2 : Int64)) (9223372036854775806 : Int64)))) (9223372036854775806 : Int64)))]))
      by_cases c3 : ((f1 u0) + (f4 (0 : Int64) (f2 ((((9223372036854775806 : Int64) - (f1 u0)) + (Int32.toInt64 ((u2 >>> ((1 : Int32) &&& 31)) &&& (3 : Int32)))) - (2 : Int64)) (9223372036854775806 : Int64)))) < (9223372036854775806 : Int64)
      · refine OEnds.pre (fun t k => XS.ifYes X7.here hx rfl (pc0 := 75) (pc' := 83) rfl (hb hby at_75) rfl (XT.ll_lt_t c3) (by decide) (by decide) k) ?_
        show OEnds p e below s _ _ _ (T7.setTop (mkF m 83 #[.val (.long u0), .second, .val (.long u1), .second, .val (.int u2), .val (.long (9223372036854775806 : Int64)), .second, .val (.long (f1 u0)), .second, .val (.long (f4 (0 : Int64) (f2 ((((9223372036854775806 : Int64) - (f1 u0)) + (Int32.toInt64 ((u2 >>> ((1 : Int32) &&& 31)) &&& (3 : Int32)))) - (2 : Int64)) (9223372036854775806 : Int64)))), .second, .val (.long ((f1 u0) + (f4 (0 : Int64) (f2 ((((9223372036854775806 : Int64) - (f1 u0)) + (Int32.toInt64 ((u2 >>> ((1 : Int32) &&& 31)) &&& (3 : Int32)))) - (2 : Int64)) (9223372036854775806 : Int64))))), .second, .unset, .unset] []))
        refine OEnds.pre (fun t k => XT.lload X7.here hx rfl (hb hby at_83) rfl k) ?_
        show OEnds p e below s _ _ _ (T7.setTop (mkF m 85 #[.val (.long u0), .second, .val (.long u1), .second, .val (.int u2), .val (.long (9223372036854775806 : Int64)), .second, .val (.long (f1 u0)), .second, .val (.long (f4 (0 : Int64) (f2 ((((9223372036854775806 : Int64) - (f1 u0)) + (Int32.toInt64 ((u2 >>> ((1 : Int32) &&& 31)) &&& (3 : Int32)))) - (2 : Int64)) (9223372036854775806 : Int64)))), .second, .val (.long ((f1 u0) + (f4 (0 : Int64) (f2 ((((9223372036854775806 : Int64) - (f1 u0)) + (Int32.toInt64 ((u2 >>> ((1 : Int32) &&& 31)) &&& (3 : Int32)))) - (2 : Int64)) (9223372036854775806 : Int64))))), .second, .unset, .unset] [(.long ((f1 u0) + (f4 (0 : Int64) (f2 ((((9223372036854775806 : Int64) - (f1 u0)) + (Int32.toInt64 ((u2 >>> ((1 : Int32) &&& 31)) &&& (3 : Int32)))) - (2 : Int64)) (9223372036854775806 : Int64)))))]))
        refine OEnds.pre (fun t k => XT.lstore X7.here hx rfl (hb hby at_85) rfl (l' := #[.val (.long u0), .second, .val (.long u1), .second, .val (.int u2), .val (.long (9223372036854775806 : Int64)), .second, .val (.long (f1 u0)), .second, .val (.long (f4 (0 : Int64) (f2 ((((9223372036854775806 : Int64) - (f1 u0)) + (Int32.toInt64 ((u2 >>> ((1 : Int32) &&& 31)) &&& (3 : Int32)))) - (2 : Int64)) (9223372036854775806 : Int64)))), .second, .val (.long ((f1 u0) + (f4 (0 : Int64) (f2 ((((9223372036854775806 : Int64) - (f1 u0)) + (Int32.toInt64 ((u2 >>> ((1 : Int32) &&& 31)) &&& (3 : Int32)))) - (2 : Int64)) (9223372036854775806 : Int64))))), .second, .val (.long ((f1 u0) + (f4 (0 : Int64) (f2 ((((9223372036854775806 : Int64) - (f1 u0)) + (Int32.toInt64 ((u2 >>> ((1 : Int32) &&& 31)) &&& (3 : Int32)))) - (2 : Int64)) (9223372036854775806 : Int64))))), .second]) rfl k) ?_
        show OEnds p e below s _ _ _ (T7.setTop (mkF m 87 #[.val (.long u0), .second, .val (.long u1), .second, .val (.int u2), .val (.long (9223372036854775806 : Int64)), .second, .val (.long (f1 u0)), .second, .val (.long (f4 (0 : Int64) (f2 ((((9223372036854775806 : Int64) - (f1 u0)) + (Int32.toInt64 ((u2 >>> ((1 : Int32) &&& 31)) &&& (3 : Int32)))) - (2 : Int64)) (9223372036854775806 : Int64)))), .second, .val (.long ((f1 u0) + (f4 (0 : Int64) (f2 ((((9223372036854775806 : Int64) - (f1 u0)) + (Int32.toInt64 ((u2 >>> ((1 : Int32) &&& 31)) &&& (3 : Int32)))) - (2 : Int64)) (9223372036854775806 : Int64))))), .second, .val (.long ((f1 u0) + (f4 (0 : Int64) (f2 ((((9223372036854775806 : Int64) - (f1 u0)) + (Int32.toInt64 ((u2 >>> ((1 : Int32) &&& 31)) &&& (3 : Int32)))) - (2 : Int64)) (9223372036854775806 : Int64))))), .second] []))
        refine OEnds.pre (fun t k => XT.lload X7.here hx rfl (hb hby at_87) rfl k) ?_
        show OEnds p e below s _ _ _ (T7.setTop (mkF m 89 #[.val (.long u0), .second, .val (.long u1), .second, .val (.int u2), .val (.long (9223372036854775806 : Int64)), .second, .val (.long (f1 u0)), .second, .val (.long (f4 (0 : Int64) (f2 ((((9223372036854775806 : Int64) - (f1 u0)) + (Int32.toInt64 ((u2 >>> ((1 : Int32) &&& 31)) &&& (3 : Int32)))) - (2 : Int64)) (9223372036854775806 : Int64)))), .second, .val (.long ((f1 u0) + (f4 (0 : Int64) (f2 ((((9223372036854775806 : Int64) - (f1 u0)) + (Int32.toInt64 ((u2 >>> ((1 : Int32) &&& 31)) &&& (3 : Int32)))) - (2 : Int64)) (9223372036854775806 : Int64))))), .second, .val (.long ((f1 u0) + (f4 (0 : Int64) (f2 ((((9223372036854775806 : Int64) - (f1 u0)) + (Int32.toInt64 ((u2 >>> ((1 : Int32) &&& 31)) &&& (3 : Int32)))) - (2 : Int64)) (9223372036854775806 : Int64))))), .second] [(.long (f1 u0))]))
        refine OEnds.pre (fun t k => XT.lload X7.here hx rfl (hb hby at_89) rfl k) ?_
        show OEnds p e below s _ _ _ (T7.setTop (mkF m 91 #[.val (.long u0), .second, .val (.long u1), .second, .val (.int u2), .val (.long (9223372036854775806 : Int64)), .second, .val (.long (f1 u0)), .second, .val (.long (f4 (0 : Int64) (f2 ((((9223372036854775806 : Int64) - (f1 u0)) + (Int32.toInt64 ((u2 >>> ((1 : Int32) &&& 31)) &&& (3 : Int32)))) - (2 : Int64)) (9223372036854775806 : Int64)))), .second, .val (.long ((f1 u0) + (f4 (0 : Int64) (f2 ((((9223372036854775806 : Int64) - (f1 u0)) + (Int32.toInt64 ((u2 >>> ((1 : Int32) &&& 31)) &&& (3 : Int32)))) - (2 : Int64)) (9223372036854775806 : Int64))))), .second, .val (.long ((f1 u0) + (f4 (0 : Int64) (f2 ((((9223372036854775806 : Int64) - (f1 u0)) + (Int32.toInt64 ((u2 >>> ((1 : Int32) &&& 31)) &&& (3 : Int32)))) - (2 : Int64)) (9223372036854775806 : Int64))))), .second] [(.long (f4 (0 : Int64) (f2 ((((9223372036854775806 : Int64) - (f1 u0)) + (Int32.toInt64 ((u2 >>> ((1 : Int32) &&& 31)) &&& (3 : Int32)))) - (2 : Int64)) (9223372036854775806 : Int64)))), (.long (f1 u0))]))
        obtain ⟨T9, X9, e9, st9⟩ := callPure X7 hx hZ (y := (⟨"com/example/equisetum/equisetum/Derivations", "sum", "(JJ)J"⟩ : MethodName)) (v := (.long (f3 (f1 u0) (f4 (0 : Int64) (f2 ((((9223372036854775806 : Int64) - (f1 u0)) + (Int32.toInt64 ((u2 >>> ((1 : Int32) &&& 31)) &&& (3 : Int32)))) - (2 : Int64)) (9223372036854775806 : Int64)))))) (W := 0) hown (hw _ (List.mem_of_getElem? (i := 10) rfl)) (hw _ (List.mem_of_getElem? (i := 11) rfl)) (hw _ (List.mem_of_getElem? (i := 12) rfl)) (hw _ (List.mem_of_getElem? (i := 13) rfl)) (by decide) e7 (met3 l Z a0 hw [] (f1 u0) (f4 (0 : Int64) (f2 ((((9223372036854775806 : Int64) - (f1 u0)) + (Int32.toInt64 ((u2 >>> ((1 : Int32) &&& 31)) &&& (3 : Int32)))) - (2 : Int64)) (9223372036854775806 : Int64))) h0) rfl rfl (by decide) (by decide) (pc := 91) (Ls := #[.val (.long u0), .second, .val (.long u1), .second, .val (.int u2), .val (.long (9223372036854775806 : Int64)), .second, .val (.long (f1 u0)), .second, .val (.long (f4 (0 : Int64) (f2 ((((9223372036854775806 : Int64) - (f1 u0)) + (Int32.toInt64 ((u2 >>> ((1 : Int32) &&& 31)) &&& (3 : Int32)))) - (2 : Int64)) (9223372036854775806 : Int64)))), .second, .val (.long ((f1 u0) + (f4 (0 : Int64) (f2 ((((9223372036854775806 : Int64) - (f1 u0)) + (Int32.toInt64 ((u2 >>> ((1 : Int32) &&& 31)) &&& (3 : Int32)))) - (2 : Int64)) (9223372036854775806 : Int64))))), .second, .val (.long ((f1 u0) + (f4 (0 : Int64) (f2 ((((9223372036854775806 : Int64) - (f1 u0)) + (Int32.toInt64 ((u2 >>> ((1 : Int32) &&& 31)) &&& (3 : Int32)))) - (2 : Int64)) (9223372036854775806 : Int64))))), .second]) (argsL := [(.long (f1 u0)), (.long (f4 (0 : Int64) (f2 ((((9223372036854775806 : Int64) - (f1 u0)) + (Int32.toInt64 ((u2 >>> ((1 : Int32) &&& 31)) &&& (3 : Int32)))) - (2 : Int64)) (9223372036854775806 : Int64))))]) (rest := []) (by rw [hml]; rfl) (lenOf pd_3 rfl) rfl (Nat.le_of_eq rfl) (hb hby at_91) (by decide) (by decide)
        refine OEnds.pre (fun t k => st9 _ k) ?_
        show OEnds p e below s _ _ _ (T9.setTop (mkF m 94 #[.val (.long u0), .second, .val (.long u1), .second, .val (.int u2), .val (.long (9223372036854775806 : Int64)), .second, .val (.long (f1 u0)), .second, .val (.long (f4 (0 : Int64) (f2 ((((9223372036854775806 : Int64) - (f1 u0)) + (Int32.toInt64 ((u2 >>> ((1 : Int32) &&& 31)) &&& (3 : Int32)))) - (2 : Int64)) (9223372036854775806 : Int64)))), .second, .val (.long ((f1 u0) + (f4 (0 : Int64) (f2 ((((9223372036854775806 : Int64) - (f1 u0)) + (Int32.toInt64 ((u2 >>> ((1 : Int32) &&& 31)) &&& (3 : Int32)))) - (2 : Int64)) (9223372036854775806 : Int64))))), .second, .val (.long ((f1 u0) + (f4 (0 : Int64) (f2 ((((9223372036854775806 : Int64) - (f1 u0)) + (Int32.toInt64 ((u2 >>> ((1 : Int32) &&& 31)) &&& (3 : Int32)))) - (2 : Int64)) (9223372036854775806 : Int64))))), .second] [(.long (f3 (f1 u0) (f4 (0 : Int64) (f2 ((((9223372036854775806 : Int64) - (f1 u0)) + (Int32.toInt64 ((u2 >>> ((1 : Int32) &&& 31)) &&& (3 : Int32)))) - (2 : Int64)) (9223372036854775806 : Int64)))))]))
        refine OEnds.pre (fun t k => XT.lload X9.here hx rfl (hb hby at_94) rfl k) ?_
        show OEnds p e below s _ _ _ (T9.setTop (mkF m 96 #[.val (.long u0), .second, .val (.long u1), .second, .val (.int u2), .val (.long (9223372036854775806 : Int64)), .second, .val (.long (f1 u0)), .second, .val (.long (f4 (0 : Int64) (f2 ((((9223372036854775806 : Int64) - (f1 u0)) + (Int32.toInt64 ((u2 >>> ((1 : Int32) &&& 31)) &&& (3 : Int32)))) - (2 : Int64)) (9223372036854775806 : Int64)))), .second, .val (.long ((f1 u0) + (f4 (0 : Int64) (f2 ((((9223372036854775806 : Int64) - (f1 u0)) + (Int32.toInt64 ((u2 >>> ((1 : Int32) &&& 31)) &&& (3 : Int32)))) - (2 : Int64)) (9223372036854775806 : Int64))))), .second, .val (.long ((f1 u0) + (f4 (0 : Int64) (f2 ((((9223372036854775806 : Int64) - (f1 u0)) + (Int32.toInt64 ((u2 >>> ((1 : Int32) &&& 31)) &&& (3 : Int32)))) - (2 : Int64)) (9223372036854775806 : Int64))))), .second] [(.long ((f1 u0) + (f4 (0 : Int64) (f2 ((((9223372036854775806 : Int64) - (f1 u0)) + (Int32.toInt64 ((u2 >>> ((1 : Int32) &&& 31)) &&& (3 : Int32)))) - (2 : Int64)) (9223372036854775806 : Int64))))), (.long (f3 (f1 u0) (f4 (0 : Int64) (f2 ((((9223372036854775806 : Int64) - (f1 u0)) + (Int32.toInt64 ((u2 >>> ((1 : Int32) &&& 31)) &&& (3 : Int32)))) - (2 : Int64)) (9223372036854775806 : Int64)))))]))
        refine OEnds.pre (fun t k => XT.lcmp X9.here hx rfl (hb hby at_96) rfl k) ?_
        show OEnds p e below s _ _ _ (T9.setTop (mkF m 97 #[.val (.long u0), .second, .val (.long u1), .second, .val (.int u2), .val (.long (9223372036854775806 : Int64)), .second, .val (.long (f1 u0)), .second, .val (.long (f4 (0 : Int64) (f2 ((((9223372036854775806 : Int64) - (f1 u0)) + (Int32.toInt64 ((u2 >>> ((1 : Int32) &&& 31)) &&& (3 : Int32)))) - (2 : Int64)) (9223372036854775806 : Int64)))), .second, .val (.long ((f1 u0) + (f4 (0 : Int64) (f2 ((((9223372036854775806 : Int64) - (f1 u0)) + (Int32.toInt64 ((u2 >>> ((1 : Int32) &&& 31)) &&& (3 : Int32)))) - (2 : Int64)) (9223372036854775806 : Int64))))), .second, .val (.long ((f1 u0) + (f4 (0 : Int64) (f2 ((((9223372036854775806 : Int64) - (f1 u0)) + (Int32.toInt64 ((u2 >>> ((1 : Int32) &&& 31)) &&& (3 : Int32)))) - (2 : Int64)) (9223372036854775806 : Int64))))), .second] [(.int (XT.cmpL (f3 (f1 u0) (f4 (0 : Int64) (f2 ((((9223372036854775806 : Int64) - (f1 u0)) + (Int32.toInt64 ((u2 >>> ((1 : Int32) &&& 31)) &&& (3 : Int32)))) - (2 : Int64)) (9223372036854775806 : Int64)))) ((f1 u0) + (f4 (0 : Int64) (f2 ((((9223372036854775806 : Int64) - (f1 u0)) + (Int32.toInt64 ((u2 >>> ((1 : Int32) &&& 31)) &&& (3 : Int32)))) - (2 : Int64)) (9223372036854775806 : Int64))))))]))
        by_cases c4 : (f3 (f1 u0) (f4 (0 : Int64) (f2 ((((9223372036854775806 : Int64) - (f1 u0)) + (Int32.toInt64 ((u2 >>> ((1 : Int32) &&& 31)) &&& (3 : Int32)))) - (2 : Int64)) (9223372036854775806 : Int64)))) = ((f1 u0) + (f4 (0 : Int64) (f2 ((((9223372036854775806 : Int64) - (f1 u0)) + (Int32.toInt64 ((u2 >>> ((1 : Int32) &&& 31)) &&& (3 : Int32)))) - (2 : Int64)) (9223372036854775806 : Int64))))
        · refine OEnds.pre (fun t k => XS.ifNo X9.here hx rfl (hb hby at_97) rfl (XT.ll_ne_f c4) k) ?_
          show OEnds p e below s _ _ _ (T9.setTop (mkF m 100 #[.val (.long u0), .second, .val (.long u1), .second, .val (.int u2), .val (.long (9223372036854775806 : Int64)), .second, .val (.long (f1 u0)), .second, .val (.long (f4 (0 : Int64) (f2 ((((9223372036854775806 : Int64) - (f1 u0)) + (Int32.toInt64 ((u2 >>> ((1 : Int32) &&& 31)) &&& (3 : Int32)))) - (2 : Int64)) (9223372036854775806 : Int64)))), .second, .val (.long ((f1 u0) + (f4 (0 : Int64) (f2 ((((9223372036854775806 : Int64) - (f1 u0)) + (Int32.toInt64 ((u2 >>> ((1 : Int32) &&& 31)) &&& (3 : Int32)))) - (2 : Int64)) (9223372036854775806 : Int64))))), .second, .val (.long ((f1 u0) + (f4 (0 : Int64) (f2 ((((9223372036854775806 : Int64) - (f1 u0)) + (Int32.toInt64 ((u2 >>> ((1 : Int32) &&& 31)) &&& (3 : Int32)))) - (2 : Int64)) (9223372036854775806 : Int64))))), .second] []))
          refine OEnds.pre (fun t k => XT.iconstV X9.here hx rfl (1 : Int32) (hb hby at_100) rfl k) ?_
          show OEnds p e below s _ _ _ (T9.setTop (mkF m 101 #[.val (.long u0), .second, .val (.long u1), .second, .val (.int u2), .val (.long (9223372036854775806 : Int64)), .second, .val (.long (f1 u0)), .second, .val (.long (f4 (0 : Int64) (f2 ((((9223372036854775806 : Int64) - (f1 u0)) + (Int32.toInt64 ((u2 >>> ((1 : Int32) &&& 31)) &&& (3 : Int32)))) - (2 : Int64)) (9223372036854775806 : Int64)))), .second, .val (.long ((f1 u0) + (f4 (0 : Int64) (f2 ((((9223372036854775806 : Int64) - (f1 u0)) + (Int32.toInt64 ((u2 >>> ((1 : Int32) &&& 31)) &&& (3 : Int32)))) - (2 : Int64)) (9223372036854775806 : Int64))))), .second, .val (.long ((f1 u0) + (f4 (0 : Int64) (f2 ((((9223372036854775806 : Int64) - (f1 u0)) + (Int32.toInt64 ((u2 >>> ((1 : Int32) &&& 31)) &&& (3 : Int32)))) - (2 : Int64)) (9223372036854775806 : Int64))))), .second] [(.int (1 : Int32))]))
          refine OEnds.pre (fun t k => XS.goto X9.here hx rfl (pc0 := 101) (pc' := 105) rfl (hb hby at_101) (by decide) (by decide) k) ?_
          show OEnds p e below s _ _ _ (T9.setTop (mkF m 105 #[.val (.long u0), .second, .val (.long u1), .second, .val (.int u2), .val (.long (9223372036854775806 : Int64)), .second, .val (.long (f1 u0)), .second, .val (.long (f4 (0 : Int64) (f2 ((((9223372036854775806 : Int64) - (f1 u0)) + (Int32.toInt64 ((u2 >>> ((1 : Int32) &&& 31)) &&& (3 : Int32)))) - (2 : Int64)) (9223372036854775806 : Int64)))), .second, .val (.long ((f1 u0) + (f4 (0 : Int64) (f2 ((((9223372036854775806 : Int64) - (f1 u0)) + (Int32.toInt64 ((u2 >>> ((1 : Int32) &&& 31)) &&& (3 : Int32)))) - (2 : Int64)) (9223372036854775806 : Int64))))), .second, .val (.long ((f1 u0) + (f4 (0 : Int64) (f2 ((((9223372036854775806 : Int64) - (f1 u0)) + (Int32.toInt64 ((u2 >>> ((1 : Int32) &&& 31)) &&& (3 : Int32)))) - (2 : Int64)) (9223372036854775806 : Int64))))), .second] [(.int (1 : Int32))]))
          exact OEnds.nrw X9 hx Bd.notSynchronized Bd.returns (by simp) (hb hby at_105) (Nat.zero_le _) (Nat.zero_le _) ⟨congrArg (fun q => some (Value.int q)) (show (1 : Int32) = _ from by unfold f0; rw [if_neg c1, if_neg c2, if_pos c3, if_pos c4]), rfl, e9⟩
        · refine OEnds.pre (fun t k => XS.ifYes X9.here hx rfl (pc0 := 97) (pc' := 104) rfl (hb hby at_97) rfl (XT.ll_ne_t c4) (by decide) (by decide) k) ?_
          show OEnds p e below s _ _ _ (T9.setTop (mkF m 104 #[.val (.long u0), .second, .val (.long u1), .second, .val (.int u2), .val (.long (9223372036854775806 : Int64)), .second, .val (.long (f1 u0)), .second, .val (.long (f4 (0 : Int64) (f2 ((((9223372036854775806 : Int64) - (f1 u0)) + (Int32.toInt64 ((u2 >>> ((1 : Int32) &&& 31)) &&& (3 : Int32)))) - (2 : Int64)) (9223372036854775806 : Int64)))), .second, .val (.long ((f1 u0) + (f4 (0 : Int64) (f2 ((((9223372036854775806 : Int64) - (f1 u0)) + (Int32.toInt64 ((u2 >>> ((1 : Int32) &&& 31)) &&& (3 : Int32)))) - (2 : Int64)) (9223372036854775806 : Int64))))), .second, .val (.long ((f1 u0) + (f4 (0 : Int64) (f2 ((((9223372036854775806 : Int64) - (f1 u0)) + (Int32.toInt64 ((u2 >>> ((1 : Int32) &&& 31)) &&& (3 : Int32)))) - (2 : Int64)) (9223372036854775806 : Int64))))), .second] []))
          refine OEnds.pre (fun t k => XT.iconstV X9.here hx rfl (0 : Int32) (hb hby at_104) rfl k) ?_
          show OEnds p e below s _ _ _ (T9.setTop (mkF m 105 #[.val (.long u0), .second, .val (.long u1), .second, .val (.int u2), .val (.long (9223372036854775806 : Int64)), .second, .val (.long (f1 u0)), .second, .val (.long (f4 (0 : Int64) (f2 ((((9223372036854775806 : Int64) - (f1 u0)) + (Int32.toInt64 ((u2 >>> ((1 : Int32) &&& 31)) &&& (3 : Int32)))) - (2 : Int64)) (9223372036854775806 : Int64)))), .second, .val (.long ((f1 u0) + (f4 (0 : Int64) (f2 ((((9223372036854775806 : Int64) - (f1 u0)) + (Int32.toInt64 ((u2 >>> ((1 : Int32) &&& 31)) &&& (3 : Int32)))) - (2 : Int64)) (9223372036854775806 : Int64))))), .second, .val (.long ((f1 u0) + (f4 (0 : Int64) (f2 ((((9223372036854775806 : Int64) - (f1 u0)) + (Int32.toInt64 ((u2 >>> ((1 : Int32) &&& 31)) &&& (3 : Int32)))) - (2 : Int64)) (9223372036854775806 : Int64))))), .second] [(.int (0 : Int32))]))
          exact OEnds.nrw X9 hx Bd.notSynchronized Bd.returns (by simp) (hb hby at_105) (Nat.zero_le _) (Nat.zero_le _) ⟨congrArg (fun q => some (Value.int q)) (show (0 : Int32) = _ from by unfold f0; rw [if_neg c1, if_neg c2, if_pos c3, if_neg c4]), rfl, e9⟩
      · refine OEnds.pre (fun t k => XS.ifNo X7.here hx rfl (hb hby at_75) rfl (XT.ll_lt_f c3) k) ?_
        show OEnds p e below s _ _ _ (T7.setTop (mkF m 78 #[.val (.long u0), .second, .val (.long u1), .second, .val (.int u2), .val (.long (9223372036854775806 : Int64)), .second, .val (.long (f1 u0)), .second, .val (.long (f4 (0 : Int64) (f2 ((((9223372036854775806 : Int64) - (f1 u0)) + (Int32.toInt64 ((u2 >>> ((1 : Int32) &&& 31)) &&& (3 : Int32)))) - (2 : Int64)) (9223372036854775806 : Int64)))), .second, .val (.long ((f1 u0) + (f4 (0 : Int64) (f2 ((((9223372036854775806 : Int64) - (f1 u0)) + (Int32.toInt64 ((u2 >>> ((1 : Int32) &&& 31)) &&& (3 : Int32)))) - (2 : Int64)) (9223372036854775806 : Int64))))), .second, .unset, .unset] []))
        refine OEnds.pre (fun t k => XT.lload X7.here hx rfl (hb hby at_78) rfl k) ?_
        show OEnds p e below s _ _ _ (T7.setTop (mkF m 80 #[.val (.long u0), .second, .val (.long u1), .second, .val (.int u2), .val (.long (9223372036854775806 : Int64)), .second, .val (.long (f1 u0)), .second, .val (.long (f4 (0 : Int64) (f2 ((((9223372036854775806 : Int64) - (f1 u0)) + (Int32.toInt64 ((u2 >>> ((1 : Int32) &&& 31)) &&& (3 : Int32)))) - (2 : Int64)) (9223372036854775806 : Int64)))), .second, .val (.long ((f1 u0) + (f4 (0 : Int64) (f2 ((((9223372036854775806 : Int64) - (f1 u0)) + (Int32.toInt64 ((u2 >>> ((1 : Int32) &&& 31)) &&& (3 : Int32)))) - (2 : Int64)) (9223372036854775806 : Int64))))), .second, .unset, .unset] [(.long (9223372036854775806 : Int64))]))
        refine OEnds.pre (fun t k => XS.goto X7.here hx rfl (pc0 := 80) (pc' := 85) rfl (hb hby at_80) (by decide) (by decide) k) ?_
        show OEnds p e below s _ _ _ (T7.setTop (mkF m 85 #[.val (.long u0), .second, .val (.long u1), .second, .val (.int u2), .val (.long (9223372036854775806 : Int64)), .second, .val (.long (f1 u0)), .second, .val (.long (f4 (0 : Int64) (f2 ((((9223372036854775806 : Int64) - (f1 u0)) + (Int32.toInt64 ((u2 >>> ((1 : Int32) &&& 31)) &&& (3 : Int32)))) - (2 : Int64)) (9223372036854775806 : Int64)))), .second, .val (.long ((f1 u0) + (f4 (0 : Int64) (f2 ((((9223372036854775806 : Int64) - (f1 u0)) + (Int32.toInt64 ((u2 >>> ((1 : Int32) &&& 31)) &&& (3 : Int32)))) - (2 : Int64)) (9223372036854775806 : Int64))))), .second, .unset, .unset] [(.long (9223372036854775806 : Int64))]))
        refine OEnds.pre (fun t k => XT.lstore X7.here hx rfl (hb hby at_85) rfl (l' := #[.val (.long u0), .second, .val (.long u1), .second, .val (.int u2), .val (.long (9223372036854775806 : Int64)), .second, .val (.long (f1 u0)), .second, .val (.long (f4 (0 : Int64) (f2 ((((9223372036854775806 : Int64) - (f1 u0)) + (Int32.toInt64 ((u2 >>> ((1 : Int32) &&& 31)) &&& (3 : Int32)))) - (2 : Int64)) (9223372036854775806 : Int64)))), .second, .val (.long ((f1 u0) + (f4 (0 : Int64) (f2 ((((9223372036854775806 : Int64) - (f1 u0)) + (Int32.toInt64 ((u2 >>> ((1 : Int32) &&& 31)) &&& (3 : Int32)))) - (2 : Int64)) (9223372036854775806 : Int64))))), .second, .val (.long (9223372036854775806 : Int64)), .second]) rfl k) ?_
        show OEnds p e below s _ _ _ (T7.setTop (mkF m 87 #[.val (.long u0), .second, .val (.long u1), .second, .val (.int u2), .val (.long (9223372036854775806 : Int64)), .second, .val (.long (f1 u0)), .second, .val (.long (f4 (0 : Int64) (f2 ((((9223372036854775806 : Int64) - (f1 u0)) + (Int32.toInt64 ((u2 >>> ((1 : Int32) &&& 31)) &&& (3 : Int32)))) - (2 : Int64)) (9223372036854775806 : Int64)))), .second, .val (.long ((f1 u0) + (f4 (0 : Int64) (f2 ((((9223372036854775806 : Int64) - (f1 u0)) + (Int32.toInt64 ((u2 >>> ((1 : Int32) &&& 31)) &&& (3 : Int32)))) - (2 : Int64)) (9223372036854775806 : Int64))))), .second, .val (.long (9223372036854775806 : Int64)), .second] []))
        refine OEnds.pre (fun t k => XT.lload X7.here hx rfl (hb hby at_87) rfl k) ?_
        show OEnds p e below s _ _ _ (T7.setTop (mkF m 89 #[.val (.long u0), .second, .val (.long u1), .second, .val (.int u2), .val (.long (9223372036854775806 : Int64)), .second, .val (.long (f1 u0)), .second, .val (.long (f4 (0 : Int64) (f2 ((((9223372036854775806 : Int64) - (f1 u0)) + (Int32.toInt64 ((u2 >>> ((1 : Int32) &&& 31)) &&& (3 : Int32)))) - (2 : Int64)) (9223372036854775806 : Int64)))), .second, .val (.long ((f1 u0) + (f4 (0 : Int64) (f2 ((((9223372036854775806 : Int64) - (f1 u0)) + (Int32.toInt64 ((u2 >>> ((1 : Int32) &&& 31)) &&& (3 : Int32)))) - (2 : Int64)) (9223372036854775806 : Int64))))), .second, .val (.long (9223372036854775806 : Int64)), .second] [(.long (f1 u0))]))
        refine OEnds.pre (fun t k => XT.lload X7.here hx rfl (hb hby at_89) rfl k) ?_
        show OEnds p e below s _ _ _ (T7.setTop (mkF m 91 #[.val (.long u0), .second, .val (.long u1), .second, .val (.int u2), .val (.long (9223372036854775806 : Int64)), .second, .val (.long (f1 u0)), .second, .val (.long (f4 (0 : Int64) (f2 ((((9223372036854775806 : Int64) - (f1 u0)) + (Int32.toInt64 ((u2 >>> ((1 : Int32) &&& 31)) &&& (3 : Int32)))) - (2 : Int64)) (9223372036854775806 : Int64)))), .second, .val (.long ((f1 u0) + (f4 (0 : Int64) (f2 ((((9223372036854775806 : Int64) - (f1 u0)) + (Int32.toInt64 ((u2 >>> ((1 : Int32) &&& 31)) &&& (3 : Int32)))) - (2 : Int64)) (9223372036854775806 : Int64))))), .second, .val (.long (9223372036854775806 : Int64)), .second] [(.long (f4 (0 : Int64) (f2 ((((9223372036854775806 : Int64) - (f1 u0)) + (Int32.toInt64 ((u2 >>> ((1 : Int32) &&& 31)) &&& (3 : Int32)))) - (2 : Int64)) (9223372036854775806 : Int64)))), (.long (f1 u0))]))
        obtain ⟨T10, X10, e10, st10⟩ := callPure X7 hx hZ (y := (⟨"com/example/equisetum/equisetum/Derivations", "sum", "(JJ)J"⟩ : MethodName)) (v := (.long (f3 (f1 u0) (f4 (0 : Int64) (f2 ((((9223372036854775806 : Int64) - (f1 u0)) + (Int32.toInt64 ((u2 >>> ((1 : Int32) &&& 31)) &&& (3 : Int32)))) - (2 : Int64)) (9223372036854775806 : Int64)))))) (W := 0) hown (hw _ (List.mem_of_getElem? (i := 10) rfl)) (hw _ (List.mem_of_getElem? (i := 11) rfl)) (hw _ (List.mem_of_getElem? (i := 12) rfl)) (hw _ (List.mem_of_getElem? (i := 13) rfl)) (by decide) e7 (met3 l Z a0 hw [] (f1 u0) (f4 (0 : Int64) (f2 ((((9223372036854775806 : Int64) - (f1 u0)) + (Int32.toInt64 ((u2 >>> ((1 : Int32) &&& 31)) &&& (3 : Int32)))) - (2 : Int64)) (9223372036854775806 : Int64))) h0) rfl rfl (by decide) (by decide) (pc := 91) (Ls := #[.val (.long u0), .second, .val (.long u1), .second, .val (.int u2), .val (.long (9223372036854775806 : Int64)), .second, .val (.long (f1 u0)), .second, .val (.long (f4 (0 : Int64) (f2 ((((9223372036854775806 : Int64) - (f1 u0)) + (Int32.toInt64 ((u2 >>> ((1 : Int32) &&& 31)) &&& (3 : Int32)))) - (2 : Int64)) (9223372036854775806 : Int64)))), .second, .val (.long ((f1 u0) + (f4 (0 : Int64) (f2 ((((9223372036854775806 : Int64) - (f1 u0)) + (Int32.toInt64 ((u2 >>> ((1 : Int32) &&& 31)) &&& (3 : Int32)))) - (2 : Int64)) (9223372036854775806 : Int64))))), .second, .val (.long (9223372036854775806 : Int64)), .second]) (argsL := [(.long (f1 u0)), (.long (f4 (0 : Int64) (f2 ((((9223372036854775806 : Int64) - (f1 u0)) + (Int32.toInt64 ((u2 >>> ((1 : Int32) &&& 31)) &&& (3 : Int32)))) - (2 : Int64)) (9223372036854775806 : Int64))))]) (rest := []) (by rw [hml]; rfl) (lenOf pd_3 rfl) rfl (Nat.le_of_eq rfl) (hb hby at_91) (by decide) (by decide)
        refine OEnds.pre (fun t k => st10 _ k) ?_
        show OEnds p e below s _ _ _ (T10.setTop (mkF m 94 #[.val (.long u0), .second, .val (.long u1), .second, .val (.int u2), .val (.long (9223372036854775806 : Int64)), .second, .val (.long (f1 u0)), .second, .val (.long (f4 (0 : Int64) (f2 ((((9223372036854775806 : Int64) - (f1 u0)) + (Int32.toInt64 ((u2 >>> ((1 : Int32) &&& 31)) &&& (3 : Int32)))) - (2 : Int64)) (9223372036854775806 : Int64)))), .second, .val (.long ((f1 u0) + (f4 (0 : Int64) (f2 ((((9223372036854775806 : Int64) - (f1 u0)) + (Int32.toInt64 ((u2 >>> ((1 : Int32) &&& 31)) &&& (3 : Int32)))) - (2 : Int64)) (9223372036854775806 : Int64))))), .second, .val (.long (9223372036854775806 : Int64)), .second] [(.long (f3 (f1 u0) (f4 (0 : Int64) (f2 ((((9223372036854775806 : Int64) - (f1 u0)) + (Int32.toInt64 ((u2 >>> ((1 : Int32) &&& 31)) &&& (3 : Int32)))) - (2 : Int64)) (9223372036854775806 : Int64)))))]))
        refine OEnds.pre (fun t k => XT.lload X10.here hx rfl (hb hby at_94) rfl k) ?_
        show OEnds p e below s _ _ _ (T10.setTop (mkF m 96 #[.val (.long u0), .second, .val (.long u1), .second, .val (.int u2), .val (.long (9223372036854775806 : Int64)), .second, .val (.long (f1 u0)), .second, .val (.long (f4 (0 : Int64) (f2 ((((9223372036854775806 : Int64) - (f1 u0)) + (Int32.toInt64 ((u2 >>> ((1 : Int32) &&& 31)) &&& (3 : Int32)))) - (2 : Int64)) (9223372036854775806 : Int64)))), .second, .val (.long ((f1 u0) + (f4 (0 : Int64) (f2 ((((9223372036854775806 : Int64) - (f1 u0)) + (Int32.toInt64 ((u2 >>> ((1 : Int32) &&& 31)) &&& (3 : Int32)))) - (2 : Int64)) (9223372036854775806 : Int64))))), .second, .val (.long (9223372036854775806 : Int64)), .second] [(.long (9223372036854775806 : Int64)), (.long (f3 (f1 u0) (f4 (0 : Int64) (f2 ((((9223372036854775806 : Int64) - (f1 u0)) + (Int32.toInt64 ((u2 >>> ((1 : Int32) &&& 31)) &&& (3 : Int32)))) - (2 : Int64)) (9223372036854775806 : Int64)))))]))
        refine OEnds.pre (fun t k => XT.lcmp X10.here hx rfl (hb hby at_96) rfl k) ?_
        show OEnds p e below s _ _ _ (T10.setTop (mkF m 97 #[.val (.long u0), .second, .val (.long u1), .second, .val (.int u2), .val (.long (9223372036854775806 : Int64)), .second, .val (.long (f1 u0)), .second, .val (.long (f4 (0 : Int64) (f2 ((((9223372036854775806 : Int64) - (f1 u0)) + (Int32.toInt64 ((u2 >>> ((1 : Int32) &&& 31)) &&& (3 : Int32)))) - (2 : Int64)) (9223372036854775806 : Int64)))), .second, .val (.long ((f1 u0) + (f4 (0 : Int64) (f2 ((((9223372036854775806 : Int64) - (f1 u0)) + (Int32.toInt64 ((u2 >>> ((1 : Int32) &&& 31)) &&& (3 : Int32)))) - (2 : Int64)) (9223372036854775806 : Int64))))), .second, .val (.long (9223372036854775806 : Int64)), .second] [(.int (XT.cmpL (f3 (f1 u0) (f4 (0 : Int64) (f2 ((((9223372036854775806 : Int64) - (f1 u0)) + (Int32.toInt64 ((u2 >>> ((1 : Int32) &&& 31)) &&& (3 : Int32)))) - (2 : Int64)) (9223372036854775806 : Int64)))) (9223372036854775806 : Int64)))]))
        by_cases c4 : (f3 (f1 u0) (f4 (0 : Int64) (f2 ((((9223372036854775806 : Int64) - (f1 u0)) + (Int32.toInt64 ((u2 >>> ((1 : Int32) &&& 31)) &&& (3 : Int32)))) - (2 : Int64)) (9223372036854775806 : Int64)))) = (9223372036854775806 : Int64)
        · refine OEnds.pre (fun t k => XS.ifNo X10.here hx rfl (hb hby at_97) rfl (XT.ll_ne_f c4) k) ?_
          show OEnds p e below s _ _ _ (T10.setTop (mkF m 100 #[.val (.long u0), .second, .val (.long u1), .second, .val (.int u2), .val (.long (9223372036854775806 : Int64)), .second, .val (.long (f1 u0)), .second, .val (.long (f4 (0 : Int64) (f2 ((((9223372036854775806 : Int64) - (f1 u0)) + (Int32.toInt64 ((u2 >>> ((1 : Int32) &&& 31)) &&& (3 : Int32)))) - (2 : Int64)) (9223372036854775806 : Int64)))), .second, .val (.long ((f1 u0) + (f4 (0 : Int64) (f2 ((((9223372036854775806 : Int64) - (f1 u0)) + (Int32.toInt64 ((u2 >>> ((1 : Int32) &&& 31)) &&& (3 : Int32)))) - (2 : Int64)) (9223372036854775806 : Int64))))), .second, .val (.long (9223372036854775806 : Int64)), .second] []))
          refine OEnds.pre (fun t k => XT.iconstV X10.here hx rfl (1 : Int32) (hb hby at_100) rfl k) ?_
          show OEnds p e below s _ _ _ (T10.setTop (mkF m 101 #[.val (.long u0), .second, .val (.long u1), .second, .val (.int u2), .val (.long (9223372036854775806 : Int64)), .second, .val (.long (f1 u0)), .second, .val (.long (f4 (0 : Int64) (f2 ((((9223372036854775806 : Int64) - (f1 u0)) + (Int32.toInt64 ((u2 >>> ((1 : Int32) &&& 31)) &&& (3 : Int32)))) - (2 : Int64)) (9223372036854775806 : Int64)))), .second, .val (.long ((f1 u0) + (f4 (0 : Int64) (f2 ((((9223372036854775806 : Int64) - (f1 u0)) + (Int32.toInt64 ((u2 >>> ((1 : Int32) &&& 31)) &&& (3 : Int32)))) - (2 : Int64)) (9223372036854775806 : Int64))))), .second, .val (.long (9223372036854775806 : Int64)), .second] [(.int (1 : Int32))]))
          refine OEnds.pre (fun t k => XS.goto X10.here hx rfl (pc0 := 101) (pc' := 105) rfl (hb hby at_101) (by decide) (by decide) k) ?_
          show OEnds p e below s _ _ _ (T10.setTop (mkF m 105 #[.val (.long u0), .second, .val (.long u1), .second, .val (.int u2), .val (.long (9223372036854775806 : Int64)), .second, .val (.long (f1 u0)), .second, .val (.long (f4 (0 : Int64) (f2 ((((9223372036854775806 : Int64) - (f1 u0)) + (Int32.toInt64 ((u2 >>> ((1 : Int32) &&& 31)) &&& (3 : Int32)))) - (2 : Int64)) (9223372036854775806 : Int64)))), .second, .val (.long ((f1 u0) + (f4 (0 : Int64) (f2 ((((9223372036854775806 : Int64) - (f1 u0)) + (Int32.toInt64 ((u2 >>> ((1 : Int32) &&& 31)) &&& (3 : Int32)))) - (2 : Int64)) (9223372036854775806 : Int64))))), .second, .val (.long (9223372036854775806 : Int64)), .second] [(.int (1 : Int32))]))
          exact OEnds.nrw X10 hx Bd.notSynchronized Bd.returns (by simp) (hb hby at_105) (Nat.zero_le _) (Nat.zero_le _) ⟨congrArg (fun q => some (Value.int q)) (show (1 : Int32) = _ from by unfold f0; rw [if_neg c1, if_neg c2, if_neg c3, if_pos c4]), rfl, e10⟩
        · refine OEnds.pre (fun t k => XS.ifYes X10.here hx rfl (pc0 := 97) (pc' := 104) rfl (hb hby at_97) rfl (XT.ll_ne_t c4) (by decide) (by decide) k) ?_
          show OEnds p e below s _ _ _ (T10.setTop (mkF m 104 #[.val (.long u0), .second, .val (.long u1), .second, .val (.int u2), .val (.long (9223372036854775806 : Int64)), .second, .val (.long (f1 u0)), .second, .val (.long (f4 (0 : Int64) (f2 ((((9223372036854775806 : Int64) - (f1 u0)) + (Int32.toInt64 ((u2 >>> ((1 : Int32) &&& 31)) &&& (3 : Int32)))) - (2 : Int64)) (9223372036854775806 : Int64)))), .second, .val (.long ((f1 u0) + (f4 (0 : Int64) (f2 ((((9223372036854775806 : Int64) - (f1 u0)) + (Int32.toInt64 ((u2 >>> ((1 : Int32) &&& 31)) &&& (3 : Int32)))) - (2 : Int64)) (9223372036854775806 : Int64))))), .second, .val (.long (9223372036854775806 : Int64)), .second] []))
          refine OEnds.pre (fun t k => XT.iconstV X10.here hx rfl (0 : Int32) (hb hby at_104) rfl k) ?_
          show OEnds p e below s _ _ _ (T10.setTop (mkF m 105 #[.val (.long u0), .second, .val (.long u1), .second, .val (.int u2), .val (.long (9223372036854775806 : Int64)), .second, .val (.long (f1 u0)), .second, .val (.long (f4 (0 : Int64) (f2 ((((9223372036854775806 : Int64) - (f1 u0)) + (Int32.toInt64 ((u2 >>> ((1 : Int32) &&& 31)) &&& (3 : Int32)))) - (2 : Int64)) (9223372036854775806 : Int64)))), .second, .val (.long ((f1 u0) + (f4 (0 : Int64) (f2 ((((9223372036854775806 : Int64) - (f1 u0)) + (Int32.toInt64 ((u2 >>> ((1 : Int32) &&& 31)) &&& (3 : Int32)))) - (2 : Int64)) (9223372036854775806 : Int64))))), .second, .val (.long (9223372036854775806 : Int64)), .second] [(.int (0 : Int32))]))
          exact OEnds.nrw X10 hx Bd.notSynchronized Bd.returns (by simp) (hb hby at_105) (Nat.zero_le _) (Nat.zero_le _) ⟨congrArg (fun q => some (Value.int q)) (show (0 : Int32) = _ from by unfold f0; rw [if_neg c1, if_neg c2, if_neg c3, if_neg c4]), rfl, e10⟩
theorem f2_range (a : Int64) : (f2 a 9223372036854775806).toInt ≤ 9223372036854775806 ∧ (0 ≤ a.toInt → 0 ≤ (f2 a 9223372036854775806).toInt) := by
  have m1 : (9223372036854775806 : Int64).toInt = 9223372036854775806 := rfl
  unfold f2
  by_cases q : (9223372036854775806 : Int64) < a
  · rw [if_pos q, m1]; omega
  · rw [if_neg q]
    rw [Int64.lt_iff_toInt_lt, m1] at q
    omega
theorem f4_range (a : Int64) (h : a.toInt ≤ 9223372036854775806) : 0 ≤ (f4 0 a).toInt ∧ (f4 0 a).toInt ≤ 9223372036854775806 := by
  have m0 : (0 : Int64).toInt = 0 := rfl
  unfold f4
  by_cases q : (0 : Int64) < a
  · rw [if_pos q]
    rw [Int64.lt_iff_toInt_lt, m0] at q
    omega
  · rw [if_neg q, m0]; omega
theorem f3_eq (a b : Int64) (ha : 0 ≤ a.toInt ∧ a.toInt ≤ 9223372036854775806) (hb : 0 ≤ b.toInt ∧ b.toInt ≤ 9223372036854775806) :
    (if (a + b) < (0 : Int64) then (if f3 a b = (9223372036854775806 : Int64) then (1 : Int32) else 0) else (if (a + b) < (9223372036854775806 : Int64) then (if f3 a b = (a + b) then (1 : Int32) else (0 : Int32)) else (if f3 a b = (9223372036854775806 : Int64) then (1 : Int32) else (0 : Int32)))) = 1 := by
  have m1 : (9223372036854775806 : Int64).toInt = 9223372036854775806 := rfl
  have es : (9223372036854775806 - b).toInt = 9223372036854775806 - b.toInt := by
    rw [i64_sub (x := 9223372036854775806) (y := b) (by omega) (by omega), m1]
  have ea : (a + b).toInt = if a.toInt + b.toInt < 9223372036854775808 then a.toInt + b.toInt else a.toInt + b.toInt - 18446744073709551616 := by
    rw [Int64.toInt_add, Int.bmod_def]
    split <;> split <;> omega
  have e3 : f3 a b = if 9223372036854775806 < a.toInt + b.toInt then 9223372036854775806 else a + b := by
    unfold f3
    have : (9223372036854775806 - b) < a ↔ 9223372036854775806 < a.toInt + b.toInt := by rw [Int64.lt_iff_toInt_lt, es]; omega
    simp only [this]
  have i1 : (a + b) < (0 : Int64) ↔ 9223372036854775808 ≤ a.toInt + b.toInt := by rw [Int64.lt_iff_toInt_lt, ea, Int64.toInt_zero]; split <;> omega
  by_cases q1 : (a + b) < (0 : Int64)
  · rw [if_pos q1, if_pos (by rw [e3, if_pos (i1.mp q1 |> fun h => by omega)])]
  · have q1' := q1
    rw [i1] at q1'
    have i2 : (a + b) < (9223372036854775806 : Int64) ↔ a.toInt + b.toInt < 9223372036854775806 := by rw [Int64.lt_iff_toInt_lt, ea, m1]; split <;> omega
    rw [if_neg q1]
    by_cases q2 : (a + b) < (9223372036854775806 : Int64)
    · rw [if_pos q2, if_pos (by rw [e3, if_neg (i2.mp q2 |> fun h => by omega)])]
    · rw [if_neg q2, if_pos]
      rw [i2] at q2
      rw [e3]
      by_cases q3 : 9223372036854775806 < a.toInt + b.toInt
      · rw [if_pos q3]
      · rw [if_neg q3, ← Int64.toInt_inj, ea, m1, if_pos (by omega)]; omega
theorem f1_range (a : Int64) : 0 ≤ (f1 a).toInt ∧ (f1 a).toInt ≤ 9223372036854775806 := by
  unfold f1
  have h := f2_range (a &&& 9223372036854775807)
  exact ⟨h.2 (and_max64 a), h.1⟩
theorem law_true (u0 u1 : Int64) (u2 : Int32) : f0 u0 u1 u2 = 1 := by
  unfold f0
  rw [f3_eq _ _ (f1_range u0) (f1_range u1), f3_eq _ _ (f1_range u0) (f4_range _ (f2_range _).1)]
  exact ite_self _
set_option maxRecDepth 65536 in
set_option maxHeartbeats 40000000 in
theorem comes_1 {Post : Tables → Env → Array Value → State → Outcome → State → Prop} (hpost : ∀ tb e args s v u, (limb_1_1.after args s (.returned v) u = true ∧ limb_1_2.after args s (.returned v) u = true ∧ True) → FrameEnd s (.returned v) u (Jvm.fieldLocs frame_1_writes args s ++ Jvm.arrayLocs frame_1_arrays args s ++ Jvm.staticLocs frame_1_statics s) 0 0 → Post tb e args s (.returned v) u) :
    ArmFor flags0 classFile x code maxLocals ret World_1 tables_1 room_1 Calls_1 rest_1 Pre_1 Post := by
  intro l hfl _ _ p e ha hc hk s m args below hf hA hF happ hP
  obtain ⟨hcalls, hrest, hpre⟩ := hP
  obtain ⟨-, -, -, hnamed, -, -, -, hat⟩ := (Spec.applies_iff hf).mp happ
  obtain ⟨hg, hn⟩ := and_e (Cond.before_iff.mp (show (Jvm.Cond.and given_1 narrow_1).before args s = true from hpre))
  obtain ⟨g0, q0⟩ := and_e hg
  obtain ⟨g1, q1⟩ := and_e q0
  obtain ⟨g2, q2⟩ := and_e q1
  obtain ⟨w0, w1, w2, rfl⟩ : ∃ w0 w1 w2 : Value, args = #[w0, w1, w2] := by
    have hs : args.size = 3 := by simpa [Cond.value, given_1] using g0
    obtain ⟨L⟩ := args
    match L, hs with
    | [w0, w1, w2], _ => exact ⟨w0, w1, w2, rfl⟩
  have hw := fun d (hd : d ∈ tables_1) => atoms_spec (ws := Jvm.Cond.code x code maxLocals ret :: tables_1) hat d (List.mem_cons_of_mem _ hd)
  obtain ⟨i0, j0⟩ := isL_v g1
  obtain rfl : w0 = (.long i0) := Option.some.inj j0
  obtain ⟨i1, j1⟩ := isL_v g2
  obtain rfl : w1 = (.long i1) := Option.some.inj j1
  obtain ⟨i2, j2⟩ := is_v q2
  obtain rfl : w2 = (.int i2) := Option.some.inj j2
  obtain ⟨n, o, h1, h2, h3, _, L, rfl, ⟨rfl, rfl, -⟩, hq⟩ := met0 l s _ hw tables_1 i0 i1 i2 s.heap p e ha hc hk s m _ below hf ((Spec.applies_iff_loose hf).mp happ).1 ⟨rfl, State.Warmed39.refl s, rfl⟩ trivial
  rw [law_true] at hq
  refine ⟨n, _, h1, h2, by rw [law_true] at h3; exact h3, hpost _ _ _ _ _ _ ⟨Cond.after_iff.mpr rfl, Cond.after_iff.mpr (eq_i res_at (Term.int_eval (1)) rfl), trivial⟩ ⟨hq.1, hq.2.1, (hq.2.2.sift fun y hy => nomatch hy).mono (by decide) (by decide)⟩⟩
theorem main_1_1 : Claimed_1_1 := comes_1 fun _ _ _ _ _ _ h hF => ⟨h.1, hF⟩
theorem main_1_2 : Claimed_1_2 := comes_1 fun _ _ _ _ _ _ h hF => ⟨h.2.1, hF⟩
end Jvm.Pilot.@@N@@
namespace Jvm.Pilot.@@N@@
open Jvm Jvm.ClassFile Sem Op Lib Jvm.Free Jvm.Stand Jvm.Pilot.@@N@@.Jvm.D
/-! MADE BY PROGRAM (witnessworld.py) out of the Statement's table words and the real class files: 10 classes; the members and pool entries that the words name. The judged class is class 1, her method 2. -/
namespace start1
open Jvm.ClassFile
def u (s : String) : CpInfo := .utf8 (stringToUtf16 s)
/-- a pool by its gaps: so many unusable entries, then the entry; so many at the end -/
def gap : Nat → List CpInfo → List CpInfo
  | 0, r => r
  | n + 1, r => .unusable :: gap n r
def poolList (es : List (Nat × CpInfo)) (last : Nat) : List CpInfo := es.foldr (fun e r => gap e.1 (e.2 :: r)) (gap last [])
def pool (es : List (Nat × CpInfo)) (last : Nat) : Array CpInfo := ⟨poolList es last⟩
def fileOf (pool : Array CpInfo) (this : Nat) (attrs : Array Attribute := #[]) (ms : Array MethodInfo := #[]) (fl : Nat := 33) (sup : Nat := 0) (ifs : Array Nat := #[]) (fds : Array FieldInfo := #[]) : ClassFile where
  minorVersion := 0
  majorVersion := 65
  constantPool := pool
  accessFlags := fl
  thisClass := this
  superClass := sup
  interfaces := ifs
  fields := fds
  methods := ms
  attributes := attrs
def plain (name : String) (sup : Option ClassId) : Class where
  name := name
  kind := .ordinary
  loader := none
  accessFlags := 33
  super := sup
  interfaces := #[]
  cf := none
  fields := #[]
  methods := #[]
  instanceTypes := #[]
  staticTypes := #[]
  resolved := #[]
  callSites := []
  init := .initialized
  statics := none
  mirror := none

def pool0 : Array CpInfo := pool [(5, u "<init>"), (0, u "()V"), (1, .class_ 10), (1, u "java/lang/Object")] 113

def k0m0 : Method := { name := "<init>", desc := "()V", sig := { parameters := [], returnType := none }, accessFlags := 1, code := none }
/-- java/lang/Object -/
def k0 : Class := { plain "java/lang/Object" none with
  accessFlags := 33
  interfaces := #[]
  cf := some (fileOf pool0 8 #[] #[{ accessFlags := 1, nameIndex := 5, descriptorIndex := 6, attributes := #[] }] 33 0 #[] #[])
  fields := #[]
  methods := #[k0m0]
  instanceTypes := #[]
  staticTypes := #[]
  resolved := Array.replicate 124 none
  statics := none }

def pool1 : Array CpInfo := pool [(2, .class_ 4), (1, u "java/lang/Object"), (0, u "<init>"), (0, u "()V"), (2, .long 9223372036854775807), (1, .class_ 12), (0, u "com/example/equisetum/equisetum/Derivations"), (0, .long 9223372036854775806), (1, .methodref 16 17), (0, .class_ 18), (0, .nameAndType 19 20), (0, u "java/lang/Math"), (0, u "min"), (0, u "(JJ)J"), (0, .methodref 22 23), (0, .class_ 24), (0, .nameAndType 25 26), (0, u "com/example/equisetum/equisetum/DerivationsSumPinLaw"), (0, u "toLength"), (0, u "(J)J"), (0, .long 2), (1, .methodref 16 30), (0, .nameAndType 31 20), (0, u "max"), (0, .methodref 11 33), (0, .nameAndType 34 20), (0, u "sum"), (2, u "law"), (0, u "(JJI)Z")] 3

def k1m0 : Method := { name := "<init>", desc := "()V", sig := { parameters := [], returnType := none }, accessFlags := 1, code := none }
def k1c1 : Code := { maxStack := 4, maxLocals := 2, code := method_2_code, exceptionTable := #[], attributes := #[] }
def k1m1 : Method := { name := "toLength", desc := "(J)J", sig := { parameters := [.long], returnType := some .long }, accessFlags := 10, code := some k1c1 }
def k1c2 : Code := { maxStack := 6, maxLocals := 15, code := code, exceptionTable := #[], attributes := #[] }
def k1m2 : Method := { name := "law", desc := "(JJI)Z", sig := { parameters := [.long, .long, .int], returnType := some .boolean }, accessFlags := 9, code := some k1c2 }
/-- com/example/equisetum/equisetum/DerivationsSumPinLaw -/
def k1 : Class := { plain "com/example/equisetum/equisetum/DerivationsSumPinLaw" (some 0) with
  accessFlags := 49
  interfaces := #[]
  cf := some (fileOf pool1 22 #[] #[{ accessFlags := 1, nameIndex := 5, descriptorIndex := 6, attributes := #[] }, { accessFlags := 10, nameIndex := 25, descriptorIndex := 26, attributes := #[] }, { accessFlags := 9, nameIndex := 37, descriptorIndex := 38, attributes := #[] }] 49 2 #[] #[])
  fields := #[]
  methods := #[k1m0, k1m1, k1m2]
  instanceTypes := #[]
  staticTypes := #[]
  resolved := Array.replicate 42 none
  statics := none }

def pool2 : Array CpInfo := pool [(1, .class_ 2), (0, u "java/lang/Math"), (1, .class_ 6), (1, u "java/lang/Object"), (0, u "<init>"), (0, u "()V"), (89, .class_ 100), (1, u "java/lang/Math$RandomNumberGeneratorHolder"), (20, u "(JJ)J"), (50, u "negativeZeroFloatBits"), (0, u "J"), (2, u "negativeZeroDoubleBits"), (21, u "max"), (2, u "min"), (43, u "$assertionsDisabled"), (0, u "Z"), (91, u "twoToTheDoubleScaleDown"), (0, u "D"), (4, u "twoToTheDoubleScaleUp"), (9, u "E"), (3, u "PI"), (2, u "TAU"), (2, u "DEGREES_TO_RADIANS"), (0, u "RADIANS_TO_DEGREES")] 94

def k2m0 : Method := { name := "<init>", desc := "()V", sig := { parameters := [], returnType := none }, accessFlags := 2, code := none }
def k2c1 : Code := { maxStack := 4, maxLocals := 4, code := jdk_29_method_66_code, exceptionTable := #[], attributes := #[] }
def k2m1 : Method := { name := "max", desc := "(JJ)J", sig := { parameters := [.long, .long], returnType := some .long }, accessFlags := 9, code := some k2c1 }
def k2c2 : Code := { maxStack := 4, maxLocals := 4, code := jdk_29_method_70_code, exceptionTable := #[], attributes := #[] }
def k2m2 : Method := { name := "min", desc := "(JJ)J", sig := { parameters := [.long, .long], returnType := some .long }, accessFlags := 9, code := some k2c2 }
/-- java/lang/Math -/
def k2 : Class := { plain "java/lang/Math" (some 0) with
  accessFlags := 49
  interfaces := #[]
  cf := some (fileOf pool2 1 #[.nestMembers #[98]] #[{ accessFlags := 2, nameIndex := 7, descriptorIndex := 8, attributes := #[] }, { accessFlags := 9, nameIndex := 198, descriptorIndex := 121, attributes := #[] }, { accessFlags := 9, nameIndex := 201, descriptorIndex := 121, attributes := #[] }] 49 4 #[] #[{ accessFlags := 25, nameIndex := 354, descriptorIndex := 339, attributes := #[] }, { accessFlags := 25, nameIndex := 358, descriptorIndex := 339, attributes := #[] }, { accessFlags := 25, nameIndex := 361, descriptorIndex := 339, attributes := #[] }, { accessFlags := 26, nameIndex := 364, descriptorIndex := 339, attributes := #[] }, { accessFlags := 26, nameIndex := 365, descriptorIndex := 339, attributes := #[] }, { accessFlags := 26, nameIndex := 172, descriptorIndex := 173, attributes := #[] }, { accessFlags := 26, nameIndex := 176, descriptorIndex := 173, attributes := #[] }, { accessFlags := 8, nameIndex := 344, descriptorIndex := 339, attributes := #[] }, { accessFlags := 8, nameIndex := 338, descriptorIndex := 339, attributes := #[] }, { accessFlags := 4120, nameIndex := 245, descriptorIndex := 246, attributes := #[] }])
  fields := #[{ name := "E", type := .double, accessFlags := 25, slot := 0, constantValue := 0 }, { name := "PI", type := .double, accessFlags := 25, slot := 1, constantValue := 0 }, { name := "TAU", type := .double, accessFlags := 25, slot := 2, constantValue := 0 }, { name := "DEGREES_TO_RADIANS", type := .double, accessFlags := 26, slot := 3, constantValue := 0 }, { name := "RADIANS_TO_DEGREES", type := .double, accessFlags := 26, slot := 4, constantValue := 0 }, { name := "negativeZeroFloatBits", type := .long, accessFlags := 26, slot := 5, constantValue := 0 }, { name := "negativeZeroDoubleBits", type := .long, accessFlags := 26, slot := 6, constantValue := 0 }, { name := "twoToTheDoubleScaleUp", type := .double, accessFlags := 8, slot := 7, constantValue := 0 }, { name := "twoToTheDoubleScaleDown", type := .double, accessFlags := 8, slot := 8, constantValue := 0 }, { name := "$assertionsDisabled", type := .boolean, accessFlags := 4120, slot := 9, constantValue := 0 }]
  methods := #[k2m0, k2m1, k2m2]
  instanceTypes := #[]
  staticTypes := #[.double, .double, .double, .double, .double, .long, .long, .double, .double, .boolean]
  resolved := Array.replicate 460 none
  statics := none }

def pool3 : Array CpInfo := pool [(4, .class_ 6), (1, u "java/lang/Object"), (3, .class_ 12), (1, u "com/example/equisetum/equisetum/Derivations"), (0, u "lengths"), (0, u "[J"), (5, u "rules"), (0, u "Lcom/example/equisetum/equisetum/IntList;"), (2, u "firsts"), (2, u "seconds"), (5, u "settled"), (0, u "Ljava/util/BitSet;"), (2, u "ruleFirst"), (0, u "Z"), (2, u "costedSystem"), (0, u "Lcom/example/equisetum/equisetum/PushdownSystem;"), (2, u "runCosts"), (75, .class_ 122), (0, u "com/example/equisetum/equisetum/Derivations$Spelling"), (3, .long 9223372036854775806), (7, u "(JJ)J"), (2, u "sum"), (0, u "CAP"), (0, u "J"), (1, u "OVER"), (0, u "NONE"), (2, u "NOTHING"), (0, u "I")] 38

def k3c0 : Code := { maxStack := 6, maxLocals := 4, code := prog_11_method_21_code, exceptionTable := #[], attributes := #[] }
def k3m0 : Method := { name := "sum", desc := "(JJ)J", sig := { parameters := [.long, .long], returnType := some .long }, accessFlags := 8, code := some k3c0 }
/-- com/example/equisetum/equisetum/Derivations -/
def k3 : Class := { plain "com/example/equisetum/equisetum/Derivations" (some 0) with
  accessFlags := 32
  interfaces := #[]
  cf := some (fileOf pool3 10 #[.nestMembers #[121]] #[{ accessFlags := 8, nameIndex := 137, descriptorIndex := 134, attributes := #[] }] 32 4 #[] #[{ accessFlags := 24, nameIndex := 138, descriptorIndex := 139, attributes := #[] }, { accessFlags := 24, nameIndex := 141, descriptorIndex := 139, attributes := #[] }, { accessFlags := 24, nameIndex := 142, descriptorIndex := 139, attributes := #[] }, { accessFlags := 24, nameIndex := 145, descriptorIndex := 146, attributes := #[] }, { accessFlags := 18, nameIndex := 37, descriptorIndex := 38, attributes := #[] }, { accessFlags := 18, nameIndex := 41, descriptorIndex := 42, attributes := #[] }, { accessFlags := 2, nameIndex := 13, descriptorIndex := 14, attributes := #[] }, { accessFlags := 2, nameIndex := 45, descriptorIndex := 14, attributes := #[] }, { accessFlags := 18, nameIndex := 20, descriptorIndex := 21, attributes := #[] }, { accessFlags := 18, nameIndex := 24, descriptorIndex := 21, attributes := #[] }, { accessFlags := 18, nameIndex := 27, descriptorIndex := 21, attributes := #[] }, { accessFlags := 18, nameIndex := 33, descriptorIndex := 34, attributes := #[] }])
  fields := #[{ name := "CAP", type := .long, accessFlags := 24, slot := 0, constantValue := 0 }, { name := "OVER", type := .long, accessFlags := 24, slot := 1, constantValue := 0 }, { name := "NONE", type := .long, accessFlags := 24, slot := 2, constantValue := 0 }, { name := "NOTHING", type := .int, accessFlags := 24, slot := 3, constantValue := 0 }, { name := "ruleFirst", type := .boolean, accessFlags := 18, slot := 0, constantValue := 0 }, { name := "costedSystem", type := (.object "com/example/equisetum/equisetum/PushdownSystem"), accessFlags := 18, slot := 1, constantValue := 0 }, { name := "lengths", type := (.array .long), accessFlags := 2, slot := 2, constantValue := 0 }, { name := "runCosts", type := (.array .long), accessFlags := 2, slot := 3, constantValue := 0 }, { name := "rules", type := (.object "com/example/equisetum/equisetum/IntList"), accessFlags := 18, slot := 4, constantValue := 0 }, { name := "firsts", type := (.object "com/example/equisetum/equisetum/IntList"), accessFlags := 18, slot := 5, constantValue := 0 }, { name := "seconds", type := (.object "com/example/equisetum/equisetum/IntList"), accessFlags := 18, slot := 6, constantValue := 0 }, { name := "settled", type := (.object "java/util/BitSet"), accessFlags := 18, slot := 7, constantValue := 0 }]
  methods := #[k3m0]
  instanceTypes := #[.boolean, (.object "com/example/equisetum/equisetum/PushdownSystem"), (.array .long), (.array .long), (.object "com/example/equisetum/equisetum/IntList"), (.object "com/example/equisetum/equisetum/IntList"), (.object "com/example/equisetum/equisetum/IntList"), (.object "java/util/BitSet")]
  staticTypes := #[.long, .long, .long, .int]
  resolved := Array.replicate 185 none
  statics := none }

def pool4 : Array CpInfo := pool [(1, u "java/lang/Cloneable"), (0, .class_ 1), (0, u "java/lang/Object"), (0, .class_ 3)] 3

/-- java/lang/Cloneable -/
def k4 : Class := { plain "java/lang/Cloneable" (some 0) with
  accessFlags := 1537
  interfaces := #[]
  cf := some (fileOf pool4 2 #[] #[] 1537 4 #[] #[])
  fields := #[]
  methods := #[]
  instanceTypes := #[]
  staticTypes := #[]
  resolved := Array.replicate 8 none
  statics := none }

def pool5 : Array CpInfo := pool [(1, u "java/io/Serializable"), (0, .class_ 1), (0, u "java/lang/Object"), (0, .class_ 3)] 3

/-- java/io/Serializable -/
def k5 : Class := { plain "java/io/Serializable" (some 0) with
  accessFlags := 1537
  interfaces := #[]
  cf := some (fileOf pool5 2 #[] #[] 1537 4 #[] #[])
  fields := #[]
  methods := #[]
  instanceTypes := #[]
  staticTypes := #[]
  resolved := Array.replicate 8 none
  statics := none }

/-- the primitive byte -/
def k6 : Class := { plain "byte" none with kind := .primitive 'B', accessFlags := 0x411 }
/-- [B -/
def k7 : Class := { plain "[B" (some 0) with kind := .array 6 .byte, interfaces := #[4, 5], accessFlags := 1041 }

/-- the primitive int -/
def k8 : Class := { plain "int" none with kind := .primitive 'I', accessFlags := 0x411 }
/-- [I -/
def k9 : Class := { plain "[I" (some 0) with kind := .array 8 .int, interfaces := #[4, 5], accessFlags := 1041 }

def heap : Heap := #[]
def classes : Array Class := #[k0, k1, k2, k3, k4, k5, k6, k7, k8, k9]
def interned : List (Array UInt16 × Addr) := []
def slotsUsed : Nat := 0
def theMethod : MethodId := ⟨1, 2⟩
def args0 : Array Value := #[.long 5, .long 6, .int 7]
def aboutOver (below : List Frame) : State where
  vm := { classes := classes, interned := interned.toArray }
  heap := heap
  slotsUsed := slotsUsed
  threads := #[{ frames := .invoking theMethod args0 :: below }]
def below0 : List Frame := [.native { method := ⟨0, 0⟩, args := #[] }]
def about1 : State := aboutOver below0
def p0 : Program := .bare "" "" ""
def e0 : Env := launch0.env 0 0 0
theorem w_frames : about1.frames = Frame.invoking theMethod args0 :: below0 := rfl
set_option maxRecDepth 65536 in
theorem w_args : argsFit about1.vm theMethod args0 = true := by decide +kernel
set_option maxRecDepth 65536 in
theorem w_heap : heapFits about1 = true := by decide +kernel
set_option maxRecDepth 65536 in
theorem w_runnable : about1.curStatus? = some .runnable := by decide +kernel
set_option maxRecDepth 65536 in
theorem w_alone : about1.alone = true := by decide +kernel
set_option maxRecDepth 65536 in
theorem w_named : about1.methodNamed? x = some theMethod := by decide +kernel
set_option maxRecDepth 65536 in
theorem w_hears : about1.hears theMethod below0 = true := by decide +kernel
set_option maxRecDepth 65536 in
theorem w_ripe : about1.ripe theMethod args0 below0 = true := by decide +kernel
theorem w_running : about1.status = .running := rfl
set_option maxRecDepth 65536 in
theorem w_room : about1.hasRoom e0.platform room_1 = true :=
  launch0.hasRoom_least _ room_1 (by decide +kernel) (by decide +kernel) (by decide +kernel) (by decide +kernel) (by decide +kernel) (by decide +kernel)
theorem allAtoms_all (ts : List Jvm.Cond) (a : Array Jvm.Value) (st : Jvm.State) : (allAtoms ts).before a st = ts.all (fun c => c.before a st) := by
  induction ts with
  | nil => rfl
  | cons c t ih =>
    show (Jvm.Cond.and c (allAtoms t)).before a st = _
    rw [Jvm.Cond.before_and, ih, List.all_cons]
def words1 : List Jvm.Cond := Jvm.Cond.code x code maxLocals ret :: tables_1
/-- a 'code' word, met by the world's own term for the bytes: nothing is compared byte by byte -/
theorem code_word {y : MethodName} {bytes : ByteArray} {mx : Nat} {rt : Option FieldType} {a : Array Value} {s : State} {m : MethodId} {meth : Method} {c : Code} (h1 : s.methodNamed? y = some m) (h2 : s.vm.method? m = some meth) (h3 : meth.code = some c) (h4 : c.code = bytes)
    (h5 : (c.maxLocals == mx && c.exceptionTable.isEmpty && decide (c.maxStack ≤ mostOperands) && decide (meth.sig.returnType = rt) && !meth.locks && decide (parseMethodDescriptor y.desc = some meth.sig)) = true) : (Jvm.Cond.code y bytes mx rt).before a s = true := by
  simp only [Bool.and_eq_true, beq_iff_eq, Bool.not_eq_true', decide_eq_true_eq] at h5
  obtain ⟨⟨⟨⟨⟨g1, g2⟩, g3⟩, g4⟩, g5⟩, g6⟩ := h5
  simp [Cond.before, Cond.holds, Cond.value, h1, h2, h3, h4, g1, g2, g3, g4, g5, g6]
def isCode : Jvm.Cond → Bool
  | .code _ _ _ _ => true
  | _ => false
theorem all_split {L : List Jvm.Cond} {P : Jvm.Cond → Bool} (h1 : L.all (fun c => isCode c || P c) = true) (h2 : ∀ c ∈ L.filter isCode, P c = true) : L.all P = true := by
  refine List.all_eq_true.mpr fun c hc => ?_
  have h := List.all_eq_true.mp h1 c hc
  rcases Bool.eq_false_or_eq_true (isCode c) with hi | hi
  · exact h2 c (List.mem_filter.mpr ⟨hc, hi⟩)
  · simpa [hi] using h
set_option maxRecDepth 65536 in
theorem w_c0 : (Jvm.Cond.code x code maxLocals ret).before args0 about1 = true := code_word (m := ⟨1, 2⟩) (meth := k1m2) (c := k1c2) (by decide +kernel) rfl rfl rfl (by decide +kernel)
set_option maxRecDepth 65536 in
theorem w_c1 : (Jvm.Cond.code ({ cls := "com/example/equisetum/equisetum/DerivationsSumPinLaw", name := "toLength", desc := "(J)J" } : Jvm.MethodName) method_2_code (2 : Nat) (Option.some Jvm.ClassFile.FieldType.long)).before args0 about1 = true := code_word (m := ⟨1, 1⟩) (meth := k1m1) (c := k1c1) (by decide +kernel) rfl rfl rfl (by decide +kernel)
set_option maxRecDepth 65536 in
theorem w_c2 : (Jvm.Cond.code ({ cls := "java/lang/Math", name := "min", desc := "(JJ)J" } : Jvm.MethodName) jdk_29_method_70_code (4 : Nat) (Option.some Jvm.ClassFile.FieldType.long)).before args0 about1 = true := code_word (m := ⟨2, 2⟩) (meth := k2m2) (c := k2c2) (by decide +kernel) rfl rfl rfl (by decide +kernel)
set_option maxRecDepth 65536 in
theorem w_c3 : (Jvm.Cond.code ({ cls := "com/example/equisetum/equisetum/Derivations", name := "sum", desc := "(JJ)J" } : Jvm.MethodName) prog_11_method_21_code (4 : Nat) (Option.some Jvm.ClassFile.FieldType.long)).before args0 about1 = true := code_word (m := ⟨3, 0⟩) (meth := k3m0) (c := k3c0) (by decide +kernel) rfl rfl rfl (by decide +kernel)
set_option maxRecDepth 65536 in
theorem w_c4 : (Jvm.Cond.code ({ cls := "java/lang/Math", name := "max", desc := "(JJ)J" } : Jvm.MethodName) jdk_29_method_66_code (4 : Nat) (Option.some Jvm.ClassFile.FieldType.long)).before args0 about1 = true := code_word (m := ⟨2, 1⟩) (meth := k2m1) (c := k2c1) (by decide +kernel) rfl rfl rfl (by decide +kernel)
def codes1 : List Jvm.Cond := [Jvm.Cond.code x code maxLocals ret, Jvm.Cond.code ({ cls := "com/example/equisetum/equisetum/DerivationsSumPinLaw", name := "toLength", desc := "(J)J" } : Jvm.MethodName) method_2_code (2 : Nat) (Option.some Jvm.ClassFile.FieldType.long), Jvm.Cond.code ({ cls := "java/lang/Math", name := "min", desc := "(JJ)J" } : Jvm.MethodName) jdk_29_method_70_code (4 : Nat) (Option.some Jvm.ClassFile.FieldType.long), Jvm.Cond.code ({ cls := "com/example/equisetum/equisetum/Derivations", name := "sum", desc := "(JJ)J" } : Jvm.MethodName) prog_11_method_21_code (4 : Nat) (Option.some Jvm.ClassFile.FieldType.long), Jvm.Cond.code ({ cls := "java/lang/Math", name := "max", desc := "(JJ)J" } : Jvm.MethodName) jdk_29_method_66_code (4 : Nat) (Option.some Jvm.ClassFile.FieldType.long)]
set_option maxRecDepth 65536 in
theorem codes_eq : words1.filter isCode = codes1 := rfl
theorem w_codes : ∀ c ∈ words1.filter isCode, c.before args0 about1 = true := by
  rw [codes_eq]
  intro c hc
  simp only [codes1, List.mem_cons, List.not_mem_nil, or_false] at hc
  rcases hc with rfl | rfl | rfl | rfl | rfl
  · exact w_c0
  · exact w_c1
  · exact w_c2
  · exact w_c3
  · exact w_c4
set_option maxRecDepth 65536 in
theorem w_t1 : words1.all (fun c => isCode c || c.before args0 about1) = true := by decide +kernel
theorem w_tables : (allAtoms (Jvm.Cond.code x code maxLocals ret :: tables_1)).before args0 about1 = true := by
  rw [allAtoms_all]
  show words1.all (fun c => c.before args0 about1) = true
  refine all_split ?_ w_codes
  rw [w_t1]
set_option maxRecDepth 65536 in
theorem w_case : (Jvm.Cond.and given_1 narrow_1).before args0 about1 = true := by decide +kernel
theorem w_applies : (headSpec (Jvm.Cond.code x code maxLocals ret :: tables_1) room_1).applies x e0.platform about1 = true :=
  (Spec.applies_iff w_frames).mpr ⟨w_running, w_runnable, w_alone, w_named, w_hears, w_ripe, w_room, w_tables⟩
theorem atStart : AtStart classFile x code maxLocals ret World_1 tables_1 room_1 Calls_1 rest_1 Pre_1 launch0 p0 e0 about1 theMethod args0 below0 :=
  ⟨lists_1, trivial, launch0.admits_env _ _ _, launch0.least_env, fairChoices_fair.cas, fairChoices_fair.clock, w_frames, w_args, w_heap, w_applies, trivial, trivial, w_case⟩
end start1
theorem witness_1 : WitnessClaimed_1 := ⟨start1.p0, start1.e0, start1.about1, start1.theMethod, start1.args0, start1.below0, start1.atStart⟩
end Jvm.Pilot.@@N@@
