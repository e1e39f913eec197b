import JvmDerived
import JvmDerived.Pilot.@@N@@Statement
import JvmDerived.Pilot.@@N@@Code
set_option linter.unusedVariables false
set_option linter.unusedSimpArgs false
@@BLOCK:NumsL.lean.txt@@
namespace Jvm.RoadKit
open Sem ClassFile Op Lib Jvm.Stand Jvm.Free Jvm.LawKit
section New
variable {p : Program} {l : Launch} {e : Env} {R : Room} {s : State} {m : MethodId} {args : Array Value} {below : List Frame} {meth : Method} {c : Code} {T : State} {locs : List Loc} {cells slots : Nat}
theorem retI (X : Stand p l e R s m args below meth c T locs cells slots) (hx : p.tables.exec = Jvm.exec) {pc : Nat} {Ls : Array Slot} {z : Int32} {rest : List Value} (hret : meth.sig.returnType = some .int) (hd : decode c.code pc = .ok (.ireturn, 1)) {fs : List Frame}
    (hl : ∀ (f : JFrame) (acts : List Action), f.method = m → f.locked = none → f.entered = [] → (doReturn e (T.setTop f) acts (some (.int z))).1 = T.setFrames fs) : Steps p.tables e below (T.setTop (mkF m pc Ls (.int z :: rest))) (T.setFrames fs) := by
  have hm' : T.vm.method? m = some meth := X.method'
  have hn : narrow .int (.int z) = .int z := rfl
  show Steps p.tables e below (T.setTop { method := m, pc := pc, locals := Ls, stack := _ :: rest, locked := none }) _
  jvm_step X.here [X.here.top, hx, hd, hm', hret, hn]
  first | (intro acts; rw [hl _ acts rfl rfl rfl]) | rw [hl _ _ rfl rfl rfl]
  exact Steps.refl _
end New
/-! the rest of a body: it ends, with what Q says of the value, the heap and the written places -/
section Own
variable {p : Program} {l : Launch} {e : Env} {R : Room} {s : State} {m : MethodId} {args : Array Value} {below : List Frame} {meth : Method} {c : Code} {T : State} {locs : List Loc} {cells slots : Nat} {k n : Nat} {Q : Option Value → Heap → List Loc → Prop} {Z : State} {a0 : Array Value} {h : Heap}
def OEnds (p : Program) (e : Env) (below : List Frame) (s : State) (k n : Nat) (Q : Option Value → Heap → List Loc → Prop) (A : State) : Prop :=
  ∃ s₂ o, Steps p.tables e below A s₂ ∧ s₂.status = .running ∧ Ended s₂ below o ∧ ∃ v L, o = .returned v ∧ Q v s₂.heap L ∧ FrameEnd s o s₂ L k n
theorem OEnds.pre {A B : State} (h : ∀ t, Steps p.tables e below B t → Steps p.tables e below A t) (hB : OEnds p e below s k n Q B) : OEnds p e below s k n Q A := by
  obtain ⟨s₂, o, h1, h2⟩ := hB
  exact ⟨s₂, o, h _ h1, h2⟩
theorem OEnds.int (X : Stand p l e R s m args below meth c T locs cells slots) (hx : p.tables.exec = Jvm.exec) (hlocks : meth.locks = false) (hret : meth.sig.returnType = some .int) {pc : Nat} {Ls : Array Slot} {z : Int32} {rest : List Value} (hd : decode c.code pc = .ok (.ireturn, 1)) (hk : cells ≤ k) (hn : slots ≤ n)
    (hQ : Q (some (.int z)) T.heap locs) : OEnds p e below s k n Q (T.setTop (mkF m pc Ls (.int z :: rest))) := by
  obtain ⟨fs, hr, hrun, hended, hW, hsame⟩ := X.leave (v := some (.int z)) (fun h => by rw [hret] at h; cases h) hlocks
  exact ⟨_, _, retI X hx hret hd hr, hrun, hended, _, _, rfl, hQ, ⟨_, rfl⟩, hW, hsame.mono hk hn⟩
theorem OEnds.nrw {ty : FieldType} (X : Stand p l e R s m args below meth c T locs cells slots) (hx : p.tables.exec = Jvm.exec) (hlocks : meth.locks = false) (hret : meth.sig.returnType = some ty) (ht : ty = .boolean ∨ ty = .byte ∨ ty = .char ∨ ty = .short) {pc : Nat} {Ls : Array Slot} {z : Int32} {rest : List Value} (hd : decode c.code pc = .ok (.ireturn, 1)) (hk : cells ≤ k) (hn : slots ≤ n)
    (hQ : Q (some (.int (nar ty z))) T.heap locs) : OEnds p e below s k n Q (T.setTop (mkF m pc Ls (.int z :: rest))) := by
  obtain ⟨fs, hr, hrun, hended, hW, hsame⟩ := X.leave (v := some (.int (nar ty z))) (fun h => by rw [hret] at h; cases h) hlocks
  exact ⟨_, _, retN X hx hret ht hd hr, hrun, hended, _, _, rfl, hQ, ⟨_, rfl⟩, hW, hsame.mono hk hn⟩
theorem OEnds.long (X : Stand p l e R s m args below meth c T locs cells slots) (hx : p.tables.exec = Jvm.exec) (hlocks : meth.locks = false) (hret : meth.sig.returnType = some .long) {pc : Nat} {Ls : Array Slot} {z : Int64} (hd : decode c.code pc = .ok (.lreturn, 1)) (hk : cells ≤ k) (hn : slots ≤ n)
    (hQ : Q (some (.long z)) T.heap locs) : OEnds p e below s k n Q (T.setTop (mkF m pc Ls [.long z])) := by
  obtain ⟨fs, hr, hrun, hended, hW, hsame⟩ := X.leave (v := some (.long z)) (fun h => by rw [hret] at h; cases h) hlocks
  exact ⟨_, _, X.lreturnOut hx hret hd hr, hrun, hended, _, _, rfl, hQ, ⟨_, rfl⟩, hW, hsame.mono hk hn⟩
/-- a static call of a method that writes nothing, by its contract -/
theorem callPure (X : Stand p l e R s m args below meth c T locs cells slots) (hx : p.tables.exec = Jvm.exec) (hZ : Z.Warmed39 s.vm) {own : String} {index : Nat} {y : MethodName} {bytes : ByteArray} {maxL : Nat} {ret : Option FieldType} {rm : Room} {as' : Array Value} {v : Value} {W : Nat}
    (hown : s.vm.findClass own = some m.cls) (w1 : (Cond.methodLink own index y).before a0 Z = true) (w2 : (Cond.static y).before a0 Z = true) (w3 : (Cond.initialized y.cls).before a0 Z = true) (w4 : (Cond.code y bytes maxL ret).before a0 Z = true) (hy : y.cls ≠ "java/lang/invoke/MethodHandle" ∧ y.cls ≠ "java/lang/invoke/VarHandle")
    (eT : T.heap = h)
    (hM : MetFree l y (head1 [Cond.code y bytes maxL ret] rm) (fun a U => a = as' ∧ Z.Warmed39 U.vm ∧ U.heap = h) (fun _ _ _ _ _ => True) (fun _ U o U' => ∃ v' L, o = .returned v' ∧ (v' = some v ∧ L = [] ∧ U'.heap = h) ∧ FrameEnd U o U' L rm.cells rm.slots))
    (hc0 : rm.cells = 0) (hs0 : rm.slots = 0) (hf : rm.frames + 1 ≤ R.frames) (hl : W + (maxL + 11) + rm.locals ≤ R.locals)
    {pc : Nat} {Ls : Array Slot} {argsL rest : List Value} (hsize : Ls.size = c.maxLocals) (hlen : ∀ sig, parseMethodDescriptor y.desc = some sig → argsL.length = sig.parameters.length) (has : argsL.toArray = as') (hW : (rest.map fun v => v.category).sum ≤ W)
    (hd : decode c.code pc = .ok (.invokestatic index, 3)) (hcells : cells ≤ R.cells) (hslots : slots ≤ R.slots) :
    ∃ T', Stand p l e R s m args below meth c T' locs cells slots ∧ T'.heap = h ∧
      ∀ target, Steps p.tables e below (T'.setTop (mkF m (pc + 3) Ls (v :: rest))) target → Steps p.tables e below (T.setTop (mkF m pc Ls (argsL.reverse ++ rest))) target := by
  obtain ⟨v', vm₁, ⟨T1, L1, k1, n1⟩, -, X1, ⟨Lc, ⟨e1, e2, e3⟩, l1, y1, z1⟩, st⟩ := Jvm.LawKit.callS X hx (y := y) hown (mvT hZ w1) (mvT hZ w2) (mvT hZ w3) (mvT hZ w4) hy
    (backOf (W := W) (Q := fun v' h' L => v' = some v ∧ L = [] ∧ h' = h) hM hZ w4 w3 hf hl) (g := mkF m pc Ls (argsL.reverse ++ rest)) rfl hsize (argsL := argsL) (rest := rest) hlen rfl
    (by show 2 * 0 + _ ≤ _; rw [Nat.mul_zero, Nat.zero_add]; exact hW) hd (fun _ _ => ⟨has, eT, by rw [hc0]; exact hcells, by rw [hs0]; exact hslots⟩)
  dsimp only [Pt.U, Pt.locs, Pt.cells, Pt.slots] at X1 l1 y1 z1 st e3
  subst l1 y1 z1 e1 e2
  rw [hc0, hs0, List.append_nil, Nat.add_zero, Nat.add_zero] at X1
  exact ⟨T1, X1, e3, st⟩
end Own
end Jvm.RoadKit
namespace Jvm.Own
open Jvm.RoadKit Jvm.Free
theorem nat_or32 (n : Nat) : n ||| 32 = if n / 32 % 2 = 0 then n + 32 else n := by
  have h1 : (n ||| 32) / 64 = n / 64 := by
    have := Nat.or_div_two_pow (a := n) (b := 32) (n := 6)
    simpa using this
  have h2 : (n ||| 32) % 64 = (n % 64) ||| 32 := by
    have := Nat.or_mod_two_pow (a := n) (b := 32) (n := 6)
    simpa using this
  have h3 : ∀ r < 64, r ||| 32 = if r / 32 % 2 = 0 then r + 32 else r := by decide
  have h4 := h3 (n % 64) (Nat.mod_lt _ (by decide))
  rw [h4] at h2
  split at h2 <;> split <;> omega
theorem toInt_nat (u : Int32) : u.toInt = if u.toBitVec.toNat < 2 ^ 31 then (u.toBitVec.toNat : Int) else (u.toBitVec.toNat : Int) - 2 ^ 32 := by
  have : u.toInt = u.toBitVec.toInt := rfl
  rw [this, BitVec.toInt_eq_toNat_cond]
  split <;> split <;> omega
theorem or32 (u : Int32) : (u ||| 32).toInt = if u.toInt / 32 % 2 = 0 then u.toInt + 32 else u.toInt := by
  have e : (u ||| 32).toBitVec.toNat = u.toBitVec.toNat ||| 32 := by simp [Int32.toBitVec_or, BitVec.toNat_or]
  have hb := u.toBitVec.isLt
  rw [toInt_nat, toInt_nat u, e, nat_or32]
  repeat' split
  all_goals omega
theorem i64_nat (u : Int64) : u.toInt = if u.toBitVec.toNat < 2 ^ 63 then (u.toBitVec.toNat : Int) else (u.toBitVec.toNat : Int) - 2 ^ 64 := by
  have : u.toInt = u.toBitVec.toInt := rfl
  rw [this, BitVec.toInt_eq_toNat_cond]
  split <;> split <;> omega
theorem or_neg64 (x y : Int64) : (x ||| y) < 0 ↔ x < 0 ∨ y < 0 := by
  have h : ∀ z : Int64, z < 0 ↔ z.toBitVec.msb = true := fun z => by
    rw [Int64.lt_iff_toInt_lt, Int64.toInt_zero]
    show z.toBitVec.toInt < 0 ↔ _
    rw [BitVec.toInt_neg_iff, BitVec.msb_eq_decide]; simp; omega
  simp [h, Int64.toBitVec_or, BitVec.msb_or]
theorem ushr_le (x : Int64) (y : Int32) : (XT.ushrL x y).toBitVec.toNat ≤ x.toBitVec.toNat := by
  simp only [XT.ushrL, UInt64.toBitVec_toInt64, UInt64.toBitVec_shiftRight, Int64.toBitVec_toUInt64]
  rw [BitVec.ushiftRight_eq', BitVec.toNat_ushiftRight, Nat.shiftRight_eq_div_pow]
  exact Nat.div_le_self _ _
theorem ushr_nonneg (x : Int64) (y : Int32) (h : 0 ≤ x.toInt) : 0 ≤ (XT.ushrL x y).toInt := by
  have h1 := ushr_le x y
  rw [i64_nat] at *
  have := x.toBitVec.isLt
  have := (XT.ushrL x y).toBitVec.isLt
  split at h <;> split <;> omega
theorem ushr44 (x : Int64) : 0 ≤ (XT.ushrL x 44).toInt ∧ (XT.ushrL x 44).toInt < 2 ^ 20 := by
  have e : (XT.ushrL x 44).toBitVec.toNat = x.toBitVec.toNat / 2 ^ 44 := by
    simp only [XT.ushrL, UInt64.toBitVec_toInt64, UInt64.toBitVec_shiftRight, Int64.toBitVec_toUInt64]
    rw [BitVec.ushiftRight_eq', BitVec.toNat_ushiftRight, Nat.shiftRight_eq_div_pow]
    rfl
  have := x.toBitVec.isLt
  rw [i64_nat, e]
  split <;> omega
theorem narc_toInt (x : Int32) : (nar .char x).toInt = x.toInt % 65536 := by
  have e : (nar .char x).toBitVec.toNat = x.toBitVec.toNat % 65536 := by
    show x.toUInt32.toUInt16.toUInt32.toInt32.toBitVec.toNat = _
    simp
  rw [toInt_nat, e, toInt_nat x]
  have := x.toBitVec.isLt
  repeat' split
  all_goals omega
theorem and_max64 (x : Int64) : 0 ≤ (x &&& 9223372036854775807).toInt := by
  have e : (x &&& 9223372036854775807).toBitVec.toNat = x.toBitVec.toNat &&& 9223372036854775807 := by simp [Int64.toBitVec_and, BitVec.toNat_and]
  have h : x.toBitVec.toNat &&& 9223372036854775807 ≤ 9223372036854775807 := Nat.and_le_right
  rw [i64_nat, e]
  split <;> omega
theorem and_max32 (x : Int32) : 0 ≤ (x &&& 2147483647).toInt := by
  have e : (x &&& 2147483647).toBitVec.toNat = x.toBitVec.toNat &&& 2147483647 := by simp [Int32.toBitVec_and, BitVec.toNat_and]
  have h : x.toBitVec.toNat &&& 2147483647 ≤ 2147483647 := Nat.and_le_right
  rw [toInt_nat, e]
  split <;> omega
theorem bv_toInt (b : BitVec 64) (k : Nat) (hb : b.toNat = k) (hk : k < 64) : b.toInt = k := by
  rw [BitVec.toInt_eq_toNat_of_lt (by omega), hb]
theorem bv_smod (b : BitVec 64) (k : Nat) (hb : b.toNat = k) (hk : k < 64) : (b.smod 64).toNat = k := by
  have h1 := bv_toInt b k hb hk
  have e : b.smod 64 = BitVec.ofNat 64 k := by
    apply BitVec.eq_of_toInt_eq
    rw [bv_toInt (BitVec.ofNat 64 k) k (by simp; omega) hk, BitVec.toInt_smod, h1, show (64 : BitVec 64).toInt = 64 from by decide, Int.fmod_eq_emod_of_nonneg _ (by omega)]; omega
  rw [e]; simp; omega
theorem and63 (y : Int64) : (y &&& 63).toBitVec.toNat = y.toBitVec.toNat % 64 := by
  rw [Int64.toBitVec_and, BitVec.toNat_and]
  have : (63 : Int64).toBitVec.toNat = 2 ^ 6 - 1 := rfl
  rw [this, Nat.and_two_pow_sub_one_eq_mod]
theorem shl_bv (x y : Int64) (k : Nat) (hy : y.toBitVec.toNat % 64 = k) : (x <<< (y &&& 63)).toBitVec = x.toBitVec <<< k := by
  have : (x <<< (y &&& 63)).toBitVec = x.toBitVec <<< ((y &&& 63).toBitVec.smod 64) := rfl
  rw [this, BitVec.shiftLeft_eq', bv_smod _ k (by rw [and63, hy]) (by omega)]
theorem neg_msb (z : Int64) : z < 0 ↔ z.toBitVec.msb = true := by
  rw [Int64.lt_iff_toInt_lt, Int64.toInt_zero]
  show z.toBitVec.toInt < 0 ↔ _
  rw [BitVec.toInt_neg_iff, BitVec.msb_eq_decide]; simp; omega
theorem shl_neg (x y : Int64) (k : Nat) (hk : k < 64) (hy : y.toBitVec.toNat % 64 = 63 - k) : (x <<< (y &&& 63)) < 0 ↔ x.toBitVec.getLsbD k = true := by
  rw [neg_msb, shl_bv x y (63 - k) hy, BitVec.msb_eq_getLsbD_last, BitVec.getLsbD_shiftLeft]
  have e : 63 - (63 - k) = k := by omega
  simp [e]
theorem mask_zero (x y : Int64) (k : Nat) (hy : y.toBitVec.toNat % 64 = k) : (x &&& ((1 : Int64) <<< (y &&& 63))) = 0 ↔ x.toBitVec.getLsbD k = false := by
  have hk : k < 64 := by omega
  rw [← Int64.toBitVec_inj, Int64.toBitVec_and, shl_bv _ _ k hy]
  constructor
  · intro h
    have := congrArg (fun z : BitVec 64 => z.getLsbD k) h
    simp [hk] at this
    exact this
  · intro h
    apply BitVec.eq_of_getLsbD_eq
    intro i hi
    simp only [BitVec.getLsbD_and, BitVec.getLsbD_shiftLeft, Int64.toBitVec_zero, BitVec.getLsbD_zero]
    show (x.toBitVec.getLsbD i && (decide (i < 64) && !decide (i < k) && (1#64).getLsbD (i - k))) = false
    by_cases q : i = k
    · subst q; simp [h]
    · by_cases q2 : i < k
      · simp [q2]
      · have : (1#64).getLsbD (i - k) = false := by
          rw [BitVec.getLsbD_one]; simp; omega
        simp [this]
theorem ushrL_bv (x : Int64) (y : Int32) (k : Nat) (hy : y.toInt64.toBitVec.toNat % 64 = k) : (XT.ushrL x y).toBitVec = x.toBitVec >>> k := by
  have e : (XT.ushrL x y).toBitVec = x.toBitVec >>> ((y.toInt64.toBitVec &&& 63) % 64) := by
    simp [XT.ushrL]
  rw [e, BitVec.ushiftRight_eq']
  congr 1
  have := and63 y.toInt64
  rw [Int64.toBitVec_and] at this
  have h2 : ((y.toInt64.toBitVec &&& 63) % 64).toNat = (y.toInt64.toBitVec &&& 63).toNat % 64 := by simp [BitVec.toNat_umod]
  rw [h2]
  have h3 : (y.toInt64.toBitVec &&& 63).toNat = y.toInt64.toBitVec.toNat % 64 := this
  rw [h3]; omega
end Jvm.Own
namespace Jvm.Pilot.@@N@@
open Jvm Jvm.ClassFile Sem Op Lib Jvm.Free Jvm.Stand Jvm.LawKit Jvm.RoadKit Bundle Jvm.Pilot.@@N@@.Jvm.D
open Jvm.Own
open Jvm.Kit (i64_add i64_sub i64_mul i64_div i32_mask i64_mask)
theorem d1_0 : decode jdk_29_method_65_code 0 = .ok (.iload_n 0, 1) := by decide +kernel
theorem d1_1 : decode jdk_29_method_65_code 1 = .ok (.iload_n 1, 1) := by decide +kernel
theorem d1_2 : decode jdk_29_method_65_code 2 = .ok (.if_icmp .lt 7, 3) := by decide +kernel
theorem d1_5 : decode jdk_29_method_65_code 5 = .ok (.iload_n 0, 1) := by decide +kernel
theorem d1_6 : decode jdk_29_method_65_code 6 = .ok (.goto 4, 3) := by decide +kernel
theorem d1_9 : decode jdk_29_method_65_code 9 = .ok (.iload_n 1, 1) := by decide +kernel
theorem d1_10 : decode jdk_29_method_65_code 10 = .ok (.ireturn, 1) := by decide +kernel
theorem pn_1 : plainFor (⟨"java/lang/Math", "max", "(II)I"⟩ : MethodName) = true := Jvm.Free.JP.mathPlain rfl (by decide +kernel)
theorem pd_1 : parseMethodDescriptor "(II)I" = some ⟨[.int, .int], some .int⟩ := by decide +kernel
theorem ef_1 (m : MethodId) (u0 : Int32) (u1 : Int32) : entryFrame m #[(.int u0), (.int u1)] 2 = mkF m 0 #[.val (.int u0), .val (.int u1)] [] := by first | rfl | (simp [entryFrame, mkF, argsToLocals, Value.category]; done)
def f1 (u0 : Int32) (u1 : Int32) : Int32 := (if u0 < u1 then u1 else u0)
set_option maxRecDepth 65536 in
set_option maxHeartbeats 40000000 in
theorem met1 (l : Launch) (Z : State) (a0 : Array Value) (hw : ∀ d ∈ tables_1, d.before a0 Z = true) (ws : List Jvm.Cond) (u0 : Int32) (u1 : Int32) (h0 : Heap) :
    MetFree l (⟨"java/lang/Math", "max", "(II)I"⟩ : MethodName) (head1 (Jvm.Cond.code (⟨"java/lang/Math", "max", "(II)I"⟩ : MethodName) jdk_29_method_65_code 2 (some .int) :: ws) ({ frames := 0, cells := 0, slots := 0, locals := 0 } : Room)) (fun a U => a = #[(.int u0), (.int u1)] ∧ Z.Warmed39 U.vm ∧ U.heap = h0) (fun _ _ _ _ _ => True) (fun _ U o U' => ∃ v L, o = .returned v ∧ (v = some (.int (f1 u0 u1)) ∧ L = [] ∧ U'.heap = h0) ∧ FrameEnd U o U' L ({ frames := 0, cells := 0, slots := 0, locals := 0 } : Room).cells ({ frames := 0, cells := 0, slots := 0, locals := 0 } : Room).slots) := by
  refine MetFree.of_bodySF pn_1 hisR ?_
  intro p e s m args below meth c s₁ Bd hml0 hP hK
  obtain ⟨rfl, hZ, hh⟩ := hP
  have hx := Bd.exec
  have hby := Bd.bytes
  have hml : c.maxLocals = 2 := hml0
  have hown : s.vm.findClass "java/lang/Math" = some m.cls := findClass_of_methodNamed Bd.named
  have X0 : Stand p l e ({ frames := 0, cells := 0, slots := 0, locals := 0 } : Room) s m #[(.int u0), (.int u1)] below meth c s₁ [] 0 0 := Stand.of_body Bd
  have e0 : s₁.heap = h0 := by rw [← hh, Bd.state]; rfl
  show OEnds p e below s _ _ (fun v h L => v = some (.int (f1 u0 u1)) ∧ L = [] ∧ h = h0) _
  refine OEnds.pre (fun t k => castTop (ef_1 m u0 u1) k) ?_
  show OEnds p e below s _ _ _ (s₁.setTop (mkF m 0 #[.val (.int u0), .val (.int u1)] []))
  refine OEnds.pre (fun t k => XS.iloadN X0.here hx rfl (hb hby d1_0) rfl k) ?_
  show OEnds p e below s _ _ _ (s₁.setTop (mkF m 1 #[.val (.int u0), .val (.int u1)] [(.int u0)]))
  refine OEnds.pre (fun t k => XS.iloadN X0.here hx rfl (hb hby d1_1) rfl k) ?_
  show OEnds p e below s _ _ _ (s₁.setTop (mkF m 2 #[.val (.int u0), .val (.int u1)] [(.int u1), (.int u0)]))
  by_cases c1 : u0 < u1
  · refine OEnds.pre (fun t k => XS.icmpYes X0.here hx rfl (pc0 := 2) (pc' := 9) rfl (hb hby d1_2) rfl (XT.ii_lt_t c1) (by decide) (by decide) k) ?_
    show OEnds p e below s _ _ _ (s₁.setTop (mkF m 9 #[.val (.int u0), .val (.int u1)] []))
    refine OEnds.pre (fun t k => XS.iloadN X0.here hx rfl (hb hby d1_9) rfl k) ?_
    show OEnds p e below s _ _ _ (s₁.setTop (mkF m 10 #[.val (.int u0), .val (.int u1)] [(.int u1)]))
    exact OEnds.int X0 hx Bd.notSynchronized Bd.returns (hb hby d1_10) (Nat.zero_le _) (Nat.zero_le _) ⟨congrArg (fun q => some (Value.int q)) (by unfold f1; rw [if_pos c1]), rfl, e0⟩
  · refine OEnds.pre (fun t k => XS.icmpNo X0.here hx rfl (hb hby d1_2) rfl (XT.ii_lt_f c1) k) ?_
    show OEnds p e below s _ _ _ (s₁.setTop (mkF m 5 #[.val (.int u0), .val (.int u1)] []))
    refine OEnds.pre (fun t k => XS.iloadN X0.here hx rfl (hb hby d1_5) rfl k) ?_
    show OEnds p e below s _ _ _ (s₁.setTop (mkF m 6 #[.val (.int u0), .val (.int u1)] [(.int u0)]))
    refine OEnds.pre (fun t k => XS.goto X0.here hx rfl (pc0 := 6) (pc' := 10) rfl (hb hby d1_6) (by decide) (by decide) k) ?_
    show OEnds p e below s _ _ _ (s₁.setTop (mkF m 10 #[.val (.int u0), .val (.int u1)] [(.int u0)]))
    exact OEnds.int X0 hx Bd.notSynchronized Bd.returns (hb hby d1_10) (Nat.zero_le _) (Nat.zero_le _) ⟨congrArg (fun q => some (Value.int q)) (by unfold f1; rw [if_neg c1]), rfl, e0⟩
theorem d2_0 : decode prog_25_method_2_code 0 = .ok (.iload_n 0, 1) := by decide +kernel
theorem d2_1 : decode prog_25_method_2_code 1 = .ok (.iconst 1, 1) := by decide +kernel
theorem d2_2 : decode prog_25_method_2_code 2 = .ok (.if_icmp .ge 17, 3) := by decide +kernel
theorem d2_19 : decode prog_25_method_2_code 19 = .ok (.iload_n 0, 1) := by decide +kernel
theorem d2_20 : decode prog_25_method_2_code 20 = .ok (.ireturn, 1) := by decide +kernel
theorem pn_2 : plainFor (⟨"com/example/deadletter/deadletter/retry/FailedAttempt", "requireValid", "(I)I"⟩ : MethodName) = true := by first | exact plainFor_of_name (by first | (simp [plainName, overriddenIn]; done) | decide +kernel) | decide +kernel
theorem pd_2 : parseMethodDescriptor "(I)I" = some ⟨[.int], some .int⟩ := by decide +kernel
theorem ef_2 (m : MethodId) (u0 : Int32) : entryFrame m #[(.int u0)] 1 = mkF m 0 #[.val (.int u0)] [] := by first | rfl | (simp [entryFrame, mkF, argsToLocals, Value.category]; done)
def f2 (u0 : Int32) : Int32 := u0
set_option maxRecDepth 65536 in
set_option maxHeartbeats 40000000 in
theorem met2 (l : Launch) (Z : State) (a0 : Array Value) (hw : ∀ d ∈ tables_1, d.before a0 Z = true) (ws : List Jvm.Cond) (u0 : Int32) (h0 : Heap) (hpre : ¬ (u0 < (1 : Int32))) :
    MetFree l (⟨"com/example/deadletter/deadletter/retry/FailedAttempt", "requireValid", "(I)I"⟩ : MethodName) (head1 (Jvm.Cond.code (⟨"com/example/deadletter/deadletter/retry/FailedAttempt", "requireValid", "(I)I"⟩ : MethodName) prog_25_method_2_code 1 (some .int) :: ws) ({ frames := 0, cells := 0, slots := 0, locals := 0 } : Room)) (fun a U => a = #[(.int u0)] ∧ Z.Warmed39 U.vm ∧ U.heap = h0) (fun _ _ _ _ _ => True) (fun _ U o U' => ∃ v L, o = .returned v ∧ (v = some (.int (f2 u0)) ∧ L = [] ∧ U'.heap = h0) ∧ FrameEnd U o U' L ({ frames := 0, cells := 0, slots := 0, locals := 0 } : Room).cells ({ frames := 0, cells := 0, slots := 0, locals := 0 } : Room).slots) := by
  refine MetFree.of_bodySF pn_2 hisR ?_
  intro p e s m args below meth c s₁ Bd hml0 hP hK
  obtain ⟨rfl, hZ, hh⟩ := hP
  have hx := Bd.exec
  have hby := Bd.bytes
  have hml : c.maxLocals = 1 := hml0
  have hown : s.vm.findClass "com/example/deadletter/deadletter/retry/FailedAttempt" = some m.cls := findClass_of_methodNamed Bd.named
  have X0 : Stand p l e ({ frames := 0, cells := 0, slots := 0, locals := 0 } : Room) s m #[(.int u0)] below meth c s₁ [] 0 0 := Stand.of_body Bd
  have e0 : s₁.heap = h0 := by rw [← hh, Bd.state]; rfl
  show OEnds p e below s _ _ (fun v h L => v = some (.int (f2 u0)) ∧ L = [] ∧ h = h0) _
  refine OEnds.pre (fun t k => castTop (ef_2 m u0) k) ?_
  show OEnds p e below s _ _ _ (s₁.setTop (mkF m 0 #[.val (.int u0)] []))
  refine OEnds.pre (fun t k => XS.iloadN X0.here hx rfl (hb hby d2_0) rfl k) ?_
  show OEnds p e below s _ _ _ (s₁.setTop (mkF m 1 #[.val (.int u0)] [(.int u0)]))
  refine OEnds.pre (fun t k => XT.iconstV X0.here hx rfl (1 : Int32) (hb hby d2_1) rfl k) ?_
  show OEnds p e below s _ _ _ (s₁.setTop (mkF m 2 #[.val (.int u0)] [(.int (1 : Int32)), (.int u0)]))
  refine OEnds.pre (fun t k => XS.icmpYes X0.here hx rfl (pc0 := 2) (pc' := 19) rfl (hb hby d2_2) rfl (XT.ii_ge_t hpre) (by decide) (by decide) k) ?_
  show OEnds p e below s _ _ _ (s₁.setTop (mkF m 19 #[.val (.int u0)] []))
  refine OEnds.pre (fun t k => XS.iloadN X0.here hx rfl (hb hby d2_19) rfl k) ?_
  show OEnds p e below s _ _ _ (s₁.setTop (mkF m 20 #[.val (.int u0)] [(.int u0)]))
  exact OEnds.int X0 hx Bd.notSynchronized Bd.returns (hb hby d2_20) (Nat.zero_le _) (Nat.zero_le _) ⟨congrArg (fun q => some (Value.int q)) (by unfold f2; rfl), rfl, e0⟩
theorem pre28 (u0 : Int32) : ¬ (f1 (1 : Int32) (u0 &&& (2147483647 : Int32))) < (1 : Int32) := by
  unfold f1
  by_cases q : (1 : Int32) < (u0 &&& (2147483647 : Int32))
  · rw [if_pos q]
    rw [Int32.lt_iff_toInt_lt] at *
    omega
  · rw [if_neg q]; decide
theorem pn_0 : plainFor x = true := by first | exact plainFor_of_name (by first | (simp [plainName, overriddenIn]; done) | decide +kernel) | decide +kernel
theorem pd_0 : parseMethodDescriptor "(I)Z" = some ⟨[.int], some .boolean⟩ := by decide +kernel
theorem ef_0 (m : MethodId) (u0 : Int32) : entryFrame m #[(.int u0)] maxLocals = mkF m 0 #[.val (.int u0), .unset, .unset] [] := by first | rfl | (simp [entryFrame, mkF, argsToLocals, Value.category, maxLocals]; done)
def f0 (u0 : Int32) : Int32 := (if (f2 (1 : Int32)) = (1 : Int32) then (if (f2 (f1 (1 : Int32) (u0 &&& (2147483647 : Int32)))) = (f1 (1 : Int32) (u0 &&& (2147483647 : Int32))) then (1 : Int32) else (0 : Int32)) else (0 : Int32))
set_option maxRecDepth 65536 in
set_option maxHeartbeats 40000000 in
theorem met0 (l : Launch) (Z : State) (a0 : Array Value) (hw : ∀ d ∈ tables_1, d.before a0 Z = true) (ws : List Jvm.Cond) (u0 : Int32) (h0 : Heap) :
    MetFree l x (head1 (Jvm.Cond.code x code maxLocals ret :: ws) room_1) (fun a U => a = #[(.int u0)] ∧ Z.Warmed39 U.vm ∧ U.heap = h0) (fun _ _ _ _ _ => True) (fun _ U o U' => ∃ v L, o = .returned v ∧ (v = some (.int (f0 u0)) ∧ L = [] ∧ U'.heap = h0) ∧ FrameEnd U o U' L room_1.cells room_1.slots) := by
  refine MetFree.of_bodySF pn_0 hisR ?_
  intro p e s m args below meth c s₁ Bd hml0 hP hK
  obtain ⟨rfl, hZ, hh⟩ := hP
  have hx := Bd.exec
  have hby := Bd.bytes
  have hml : c.maxLocals = 3 := hml0
  have hown : s.vm.findClass "com/example/deadletter/deadletter/retry/FailedAttemptRequireValidPinLaw" = some m.cls := findClass_of_methodNamed Bd.named
  have X0 : Stand p l e room_1 s m #[(.int u0)] below meth c s₁ [] 0 0 := Stand.of_body Bd
  have e0 : s₁.heap = h0 := by rw [← hh, Bd.state]; rfl
  show OEnds p e below s _ _ (fun v h L => v = some (.int (f0 u0)) ∧ L = [] ∧ h = h0) _
  refine OEnds.pre (fun t k => castTop (ef_0 m u0) k) ?_
  show OEnds p e below s _ _ _ (s₁.setTop (mkF m 0 #[.val (.int u0), .unset, .unset] []))
  refine OEnds.pre (fun t k => XT.iconstV X0.here hx rfl (1 : Int32) (hb hby at_0) rfl k) ?_
  show OEnds p e below s _ _ _ (s₁.setTop (mkF m 1 #[.val (.int u0), .unset, .unset] [(.int (1 : Int32))]))
  refine OEnds.pre (fun t k => XS.iloadN X0.here hx rfl (hb hby at_1) rfl k) ?_
  show OEnds p e below s _ _ _ (s₁.setTop (mkF m 2 #[.val (.int u0), .unset, .unset] [(.int u0), (.int (1 : Int32))]))
  refine OEnds.pre (fun t k => Jvm.Stand.ldcI X0 hx hown (mvT hZ (hw _ (List.mem_of_getElem? (i := 0) rfl))) rfl (hb hby at_2) k) ?_
  show OEnds p e below s _ _ _ (s₁.setTop (mkF m 4 #[.val (.int u0), .unset, .unset] [(.int (2147483647 : Int32)), (.int u0), (.int (1 : Int32))]))
  refine OEnds.pre (fun t k => XS.iand X0.here hx rfl (hb hby at_4) rfl k) ?_
  show OEnds p e below s _ _ _ (s₁.setTop (mkF m 5 #[.val (.int u0), .unset, .unset] [(.int (u0 &&& (2147483647 : Int32))), (.int (1 : Int32))]))
  obtain ⟨T1, X1, e1, st1⟩ := callPure X0 hx hZ (y := (⟨"java/lang/Math", "max", "(II)I"⟩ : MethodName)) (v := (.int (f1 (1 : Int32) (u0 &&& (2147483647 : Int32))))) (W := 0) hown (hw _ (List.mem_of_getElem? (i := 1) rfl)) (hw _ (List.mem_of_getElem? (i := 2) rfl)) (hw _ (List.mem_of_getElem? (i := 3) rfl)) (hw _ (List.mem_of_getElem? (i := 4) rfl)) (by decide) e0 (met1 l Z a0 hw [] (1 : Int32) (u0 &&& (2147483647 : Int32)) h0) rfl rfl (by decide) (by decide) (pc := 5) (Ls := #[.val (.int u0), .unset, .unset]) (argsL := [(.int (1 : Int32)), (.int (u0 &&& (2147483647 : Int32)))]) (rest := []) (by rw [hml]; rfl) (lenOf pd_1 rfl) rfl (Nat.le_of_eq rfl) (hb hby at_5) (by decide) (by decide)
  refine OEnds.pre (fun t k => st1 _ k) ?_
  show OEnds p e below s _ _ _ (T1.setTop (mkF m 8 #[.val (.int u0), .unset, .unset] [(.int (f1 (1 : Int32) (u0 &&& (2147483647 : Int32))))]))
  refine OEnds.pre (fun t k => XS.istoreN X1.here hx rfl (hb hby at_8) rfl (l' := #[.val (.int u0), .val (.int (f1 (1 : Int32) (u0 &&& (2147483647 : Int32)))), .unset]) rfl k) ?_
  show OEnds p e below s _ _ _ (T1.setTop (mkF m 9 #[.val (.int u0), .val (.int (f1 (1 : Int32) (u0 &&& (2147483647 : Int32)))), .unset] []))
  refine OEnds.pre (fun t k => XT.iconstV X1.here hx rfl (1 : Int32) (hb hby at_9) rfl k) ?_
  show OEnds p e below s _ _ _ (T1.setTop (mkF m 10 #[.val (.int u0), .val (.int (f1 (1 : Int32) (u0 &&& (2147483647 : Int32)))), .unset] [(.int (1 : Int32))]))
  obtain ⟨T2, X2, e2, st2⟩ := callPure X1 hx hZ (y := (⟨"com/example/deadletter/deadletter/retry/FailedAttempt", "requireValid", "(I)I"⟩ : MethodName)) (v := (.int (f2 (1 : Int32)))) (W := 0) hown (hw _ (List.mem_of_getElem? (i := 5) rfl)) (hw _ (List.mem_of_getElem? (i := 6) rfl)) (hw _ (List.mem_of_getElem? (i := 7) rfl)) (hw _ (List.mem_of_getElem? (i := 8) rfl)) (by decide) e1 (met2 l Z a0 hw [] (1 : Int32) h0 (by decide)) rfl rfl (by decide) (by decide) (pc := 10) (Ls := #[.val (.int u0), .val (.int (f1 (1 : Int32) (u0 &&& (2147483647 : Int32)))), .unset]) (argsL := [(.int (1 : Int32))]) (rest := []) (by rw [hml]; rfl) (lenOf pd_2 rfl) rfl (Nat.le_of_eq rfl) (hb hby at_10) (by decide) (by decide)
  refine OEnds.pre (fun t k => st2 _ k) ?_
  show OEnds p e below s _ _ _ (T2.setTop (mkF m 13 #[.val (.int u0), .val (.int (f1 (1 : Int32) (u0 &&& (2147483647 : Int32)))), .unset] [(.int (f2 (1 : Int32)))]))
  refine OEnds.pre (fun t k => XT.iconstV X2.here hx rfl (1 : Int32) (hb hby at_13) rfl k) ?_
  show OEnds p e below s _ _ _ (T2.setTop (mkF m 14 #[.val (.int u0), .val (.int (f1 (1 : Int32) (u0 &&& (2147483647 : Int32)))), .unset] [(.int (1 : Int32)), (.int (f2 (1 : Int32)))]))
  by_cases c1 : (f2 (1 : Int32)) = (1 : Int32)
  · refine OEnds.pre (fun t k => XS.icmpNo X2.here hx rfl (hb hby at_14) rfl (XT.ii_ne_f c1) k) ?_
    show OEnds p e below s _ _ _ (T2.setTop (mkF m 17 #[.val (.int u0), .val (.int (f1 (1 : Int32) (u0 &&& (2147483647 : Int32)))), .unset] []))
    refine OEnds.pre (fun t k => XT.iconstV X2.here hx rfl (1 : Int32) (hb hby at_17) rfl k) ?_
    show OEnds p e below s _ _ _ (T2.setTop (mkF m 18 #[.val (.int u0), .val (.int (f1 (1 : Int32) (u0 &&& (2147483647 : Int32)))), .unset] [(.int (1 : Int32))]))
    refine OEnds.pre (fun t k => XS.goto X2.here hx rfl (pc0 := 18) (pc' := 22) rfl (hb hby at_18) (by decide) (by decide) k) ?_
    show OEnds p e below s _ _ _ (T2.setTop (mkF m 22 #[.val (.int u0), .val (.int (f1 (1 : Int32) (u0 &&& (2147483647 : Int32)))), .unset] [(.int (1 : Int32))]))
    refine OEnds.pre (fun t k => XS.istoreN X2.here hx rfl (hb hby at_22) rfl (l' := #[.val (.int u0), .val (.int (f1 (1 : Int32) (u0 &&& (2147483647 : Int32)))), .val (.int (1 : Int32))]) rfl k) ?_
    show OEnds p e below s _ _ _ (T2.setTop (mkF m 23 #[.val (.int u0), .val (.int (f1 (1 : Int32) (u0 &&& (2147483647 : Int32)))), .val (.int (1 : Int32))] []))
    refine OEnds.pre (fun t k => XS.iloadN X2.here hx rfl (hb hby at_23) rfl k) ?_
    show OEnds p e below s _ _ _ (T2.setTop (mkF m 24 #[.val (.int u0), .val (.int (f1 (1 : Int32) (u0 &&& (2147483647 : Int32)))), .val (.int (1 : Int32))] [(.int (1 : Int32))]))
    refine OEnds.pre (fun t k => XS.ifNo X2.here hx rfl (hb hby at_24) rfl (XT.i0_eq_f (by decide)) k) ?_
    show OEnds p e below s _ _ _ (T2.setTop (mkF m 27 #[.val (.int u0), .val (.int (f1 (1 : Int32) (u0 &&& (2147483647 : Int32)))), .val (.int (1 : Int32))] []))
    refine OEnds.pre (fun t k => XS.iloadN X2.here hx rfl (hb hby at_27) rfl k) ?_
    show OEnds p e below s _ _ _ (T2.setTop (mkF m 28 #[.val (.int u0), .val (.int (f1 (1 : Int32) (u0 &&& (2147483647 : Int32)))), .val (.int (1 : Int32))] [(.int (f1 (1 : Int32) (u0 &&& (2147483647 : Int32))))]))
    obtain ⟨T3, X3, e3, st3⟩ := callPure X2 hx hZ (y := (⟨"com/example/deadletter/deadletter/retry/FailedAttempt", "requireValid", "(I)I"⟩ : MethodName)) (v := (.int (f2 (f1 (1 : Int32) (u0 &&& (2147483647 : Int32)))))) (W := 0) hown (hw _ (List.mem_of_getElem? (i := 5) rfl)) (hw _ (List.mem_of_getElem? (i := 6) rfl)) (hw _ (List.mem_of_getElem? (i := 7) rfl)) (hw _ (List.mem_of_getElem? (i := 8) rfl)) (by decide) e2 (met2 l Z a0 hw [] (f1 (1 : Int32) (u0 &&& (2147483647 : Int32))) h0 (pre28 u0)) rfl rfl (by decide) (by decide) (pc := 28) (Ls := #[.val (.int u0), .val (.int (f1 (1 : Int32) (u0 &&& (2147483647 : Int32)))), .val (.int (1 : Int32))]) (argsL := [(.int (f1 (1 : Int32) (u0 &&& (2147483647 : Int32))))]) (rest := []) (by rw [hml]; rfl) (lenOf pd_2 rfl) rfl (Nat.le_of_eq rfl) (hb hby at_28) (by decide) (by decide)
    refine OEnds.pre (fun t k => st3 _ k) ?_
    show OEnds p e below s _ _ _ (T3.setTop (mkF m 31 #[.val (.int u0), .val (.int (f1 (1 : Int32) (u0 &&& (2147483647 : Int32)))), .val (.int (1 : Int32))] [(.int (f2 (f1 (1 : Int32) (u0 &&& (2147483647 : Int32)))))]))
    refine OEnds.pre (fun t k => XS.iloadN X3.here hx rfl (hb hby at_31) rfl k) ?_
    show OEnds p e below s _ _ _ (T3.setTop (mkF m 32 #[.val (.int u0), .val (.int (f1 (1 : Int32) (u0 &&& (2147483647 : Int32)))), .val (.int (1 : Int32))] [(.int (f1 (1 : Int32) (u0 &&& (2147483647 : Int32)))), (.int (f2 (f1 (1 : Int32) (u0 &&& (2147483647 : Int32)))))]))
    by_cases c2 : (f2 (f1 (1 : Int32) (u0 &&& (2147483647 : Int32)))) = (f1 (1 : Int32) (u0 &&& (2147483647 : Int32)))
    · refine OEnds.pre (fun t k => XS.icmpNo X3.here hx rfl (hb hby at_32) rfl (XT.ii_ne_f c2) k) ?_
      show OEnds p e below s _ _ _ (T3.setTop (mkF m 35 #[.val (.int u0), .val (.int (f1 (1 : Int32) (u0 &&& (2147483647 : Int32)))), .val (.int (1 : Int32))] []))
      refine OEnds.pre (fun t k => XT.iconstV X3.here hx rfl (1 : Int32) (hb hby at_35) rfl k) ?_
      show OEnds p e below s _ _ _ (T3.setTop (mkF m 36 #[.val (.int u0), .val (.int (f1 (1 : Int32) (u0 &&& (2147483647 : Int32)))), .val (.int (1 : Int32))] [(.int (1 : Int32))]))
      refine OEnds.pre (fun t k => XS.goto X3.here hx rfl (pc0 := 36) (pc' := 40) rfl (hb hby at_36) (by decide) (by decide) k) ?_
      show OEnds p e below s _ _ _ (T3.setTop (mkF m 40 #[.val (.int u0), .val (.int (f1 (1 : Int32) (u0 &&& (2147483647 : Int32)))), .val (.int (1 : Int32))] [(.int (1 : Int32))]))
      exact OEnds.nrw X3 hx Bd.notSynchronized Bd.returns (by simp) (hb hby at_40) (Nat.zero_le _) (Nat.zero_le _) ⟨congrArg (fun q => some (Value.int q)) (show (1 : Int32) = _ from by unfold f0; rw [if_pos c1, if_pos c2]), rfl, e3⟩
    · refine OEnds.pre (fun t k => XS.icmpYes X3.here hx rfl (pc0 := 32) (pc' := 39) rfl (hb hby at_32) rfl (XT.ii_ne_t c2) (by decide) (by decide) k) ?_
      show OEnds p e below s _ _ _ (T3.setTop (mkF m 39 #[.val (.int u0), .val (.int (f1 (1 : Int32) (u0 &&& (2147483647 : Int32)))), .val (.int (1 : Int32))] []))
      refine OEnds.pre (fun t k => XT.iconstV X3.here hx rfl (0 : Int32) (hb hby at_39) rfl k) ?_
      show OEnds p e below s _ _ _ (T3.setTop (mkF m 40 #[.val (.int u0), .val (.int (f1 (1 : Int32) (u0 &&& (2147483647 : Int32)))), .val (.int (1 : Int32))] [(.int (0 : Int32))]))
      exact OEnds.nrw X3 hx Bd.notSynchronized Bd.returns (by simp) (hb hby at_40) (Nat.zero_le _) (Nat.zero_le _) ⟨congrArg (fun q => some (Value.int q)) (show (0 : Int32) = _ from by unfold f0; rw [if_pos c1, if_neg c2]), rfl, e3⟩
  · refine OEnds.pre (fun t k => XS.icmpYes X2.here hx rfl (pc0 := 14) (pc' := 21) rfl (hb hby at_14) rfl (XT.ii_ne_t c1) (by decide) (by decide) k) ?_
    show OEnds p e below s _ _ _ (T2.setTop (mkF m 21 #[.val (.int u0), .val (.int (f1 (1 : Int32) (u0 &&& (2147483647 : Int32)))), .unset] []))
    refine OEnds.pre (fun t k => XT.iconstV X2.here hx rfl (0 : Int32) (hb hby at_21) rfl k) ?_
    show OEnds p e below s _ _ _ (T2.setTop (mkF m 22 #[.val (.int u0), .val (.int (f1 (1 : Int32) (u0 &&& (2147483647 : Int32)))), .unset] [(.int (0 : Int32))]))
    refine OEnds.pre (fun t k => XS.istoreN X2.here hx rfl (hb hby at_22) rfl (l' := #[.val (.int u0), .val (.int (f1 (1 : Int32) (u0 &&& (2147483647 : Int32)))), .val (.int (0 : Int32))]) rfl k) ?_
    show OEnds p e below s _ _ _ (T2.setTop (mkF m 23 #[.val (.int u0), .val (.int (f1 (1 : Int32) (u0 &&& (2147483647 : Int32)))), .val (.int (0 : Int32))] []))
    refine OEnds.pre (fun t k => XS.iloadN X2.here hx rfl (hb hby at_23) rfl k) ?_
    show OEnds p e below s _ _ _ (T2.setTop (mkF m 24 #[.val (.int u0), .val (.int (f1 (1 : Int32) (u0 &&& (2147483647 : Int32)))), .val (.int (0 : Int32))] [(.int (0 : Int32))]))
    refine OEnds.pre (fun t k => XS.ifYes X2.here hx rfl (pc0 := 24) (pc' := 39) rfl (hb hby at_24) rfl (XT.i0_eq_t (by decide)) (by decide) (by decide) k) ?_
    show OEnds p e below s _ _ _ (T2.setTop (mkF m 39 #[.val (.int u0), .val (.int (f1 (1 : Int32) (u0 &&& (2147483647 : Int32)))), .val (.int (0 : Int32))] []))
    refine OEnds.pre (fun t k => XT.iconstV X2.here hx rfl (0 : Int32) (hb hby at_39) rfl k) ?_
    show OEnds p e below s _ _ _ (T2.setTop (mkF m 40 #[.val (.int u0), .val (.int (f1 (1 : Int32) (u0 &&& (2147483647 : Int32)))), .val (.int (0 : Int32))] [(.int (0 : Int32))]))
    exact OEnds.nrw X2 hx Bd.notSynchronized Bd.returns (by simp) (hb hby at_40) (Nat.zero_le _) (Nat.zero_le _) ⟨congrArg (fun q => some (Value.int q)) (show (0 : Int32) = _ from by unfold f0; rw [if_neg c1]), rfl, e2⟩
theorem law_true (u0 : Int32) : f0 u0 = 1 := by
  unfold f0 f2
  simp
set_option maxRecDepth 65536 in
set_option maxHeartbeats 40000000 in
theorem comes_1 {Post : Tables → Env → Array Value → State → Outcome → State → Prop} (hpost : ∀ tb e args s v u, (limb_1_1.after args s (.returned v) u = true ∧ limb_1_2.after args s (.returned v) u = true ∧ True) → FrameEnd s (.returned v) u (Jvm.fieldLocs frame_1_writes args s ++ Jvm.arrayLocs frame_1_arrays args s ++ Jvm.staticLocs frame_1_statics s) 0 0 → Post tb e args s (.returned v) u) :
    ArmFor flags0 classFile x code maxLocals ret World_1 tables_1 room_1 Calls_1 rest_1 Pre_1 Post := by
  intro l hfl _ _ p e ha hc hk s m args below hf hA hF happ hP
  obtain ⟨hcalls, hrest, hpre⟩ := hP
  obtain ⟨-, -, -, hnamed, -, -, -, hat⟩ := (Spec.applies_iff hf).mp happ
  obtain ⟨hg, hn⟩ := and_e (Cond.before_iff.mp (show (Jvm.Cond.and given_1 narrow_1).before args s = true from hpre))
  obtain ⟨g0, q0⟩ := and_e hg
  obtain ⟨w0, rfl⟩ : ∃ w0 : Value, args = #[w0] := by
    have hs : args.size = 1 := by simpa [Cond.value, given_1] using g0
    obtain ⟨L⟩ := args
    match L, hs with
    | [w0], _ => exact ⟨w0, rfl⟩
  have hw := fun d (hd : d ∈ tables_1) => atoms_spec (ws := Jvm.Cond.code x code maxLocals ret :: tables_1) hat d (List.mem_cons_of_mem _ hd)
  obtain ⟨i0, j0⟩ := is_v q0
  obtain rfl : w0 = (.int i0) := Option.some.inj j0
  obtain ⟨n, o, h1, h2, h3, _, L, rfl, ⟨rfl, rfl, -⟩, hq⟩ := met0 l s _ hw tables_1 i0 s.heap p e ha hc hk s m _ below hf ((Spec.applies_iff_loose hf).mp happ).1 ⟨rfl, State.Warmed39.refl s, rfl⟩ trivial
  rw [law_true] at hq
  refine ⟨n, _, h1, h2, by rw [law_true] at h3; exact h3, hpost _ _ _ _ _ _ ⟨Cond.after_iff.mpr rfl, Cond.after_iff.mpr (eq_i res_at (Term.int_eval (1)) rfl), trivial⟩ ⟨hq.1, hq.2.1, (hq.2.2.sift fun y hy => nomatch hy).mono (by decide) (by decide)⟩⟩
theorem main_1_1 : Claimed_1_1 := comes_1 fun _ _ _ _ _ _ h hF => ⟨h.1, hF⟩
theorem main_1_2 : Claimed_1_2 := comes_1 fun _ _ _ _ _ _ h hF => ⟨h.2.1, hF⟩
end Jvm.Pilot.@@N@@
namespace Jvm.Pilot.@@N@@
open Jvm Jvm.ClassFile Sem Op Lib Jvm.Free Jvm.Stand Jvm.Pilot.@@N@@.Jvm.D
/-! MADE BY PROGRAM (witnessworld.py) out of the Statement's table words and the real class files: 10 classes; the members and pool entries that the words name. The judged class is class 1, her method 1. -/
namespace start1
open Jvm.ClassFile
def u (s : String) : CpInfo := .utf8 (stringToUtf16 s)
/-- a pool by its gaps: so many unusable entries, then the entry; so many at the end -/
def gap : Nat → List CpInfo → List CpInfo
  | 0, r => r
  | n + 1, r => .unusable :: gap n r
def poolList (es : List (Nat × CpInfo)) (last : Nat) : List CpInfo := es.foldr (fun e r => gap e.1 (e.2 :: r)) (gap last [])
def pool (es : List (Nat × CpInfo)) (last : Nat) : Array CpInfo := ⟨poolList es last⟩
def fileOf (pool : Array CpInfo) (this : Nat) (attrs : Array Attribute := #[]) (ms : Array MethodInfo := #[]) (fl : Nat := 33) (sup : Nat := 0) (ifs : Array Nat := #[]) (fds : Array FieldInfo := #[]) : ClassFile where
  minorVersion := 0
  majorVersion := 65
  constantPool := pool
  accessFlags := fl
  thisClass := this
  superClass := sup
  interfaces := ifs
  fields := fds
  methods := ms
  attributes := attrs
def plain (name : String) (sup : Option ClassId) : Class where
  name := name
  kind := .ordinary
  loader := none
  accessFlags := 33
  super := sup
  interfaces := #[]
  cf := none
  fields := #[]
  methods := #[]
  instanceTypes := #[]
  staticTypes := #[]
  resolved := #[]
  callSites := []
  init := .initialized
  statics := none
  mirror := none

def pool0 : Array CpInfo := pool [(5, u "<init>"), (0, u "()V"), (1, .class_ 10), (1, u "java/lang/Object")] 113

def k0m0 : Method := { name := "<init>", desc := "()V", sig := { parameters := [], returnType := none }, accessFlags := 1, code := none }
/-- java/lang/Object -/
def k0 : Class := { plain "java/lang/Object" none with
  accessFlags := 33
  interfaces := #[]
  cf := some (fileOf pool0 8 #[] #[{ accessFlags := 1, nameIndex := 5, descriptorIndex := 6, attributes := #[] }] 33 0 #[] #[])
  fields := #[]
  methods := #[k0m0]
  instanceTypes := #[]
  staticTypes := #[]
  resolved := Array.replicate 124 none
  statics := none }

def pool1 : Array CpInfo := pool [(2, .class_ 4), (1, u "java/lang/Object"), (0, u "<init>"), (0, u "()V"), (0, .integer 2147483647), (0, .methodref 9 10), (0, .class_ 11), (0, .nameAndType 12 13), (0, u "java/lang/Math"), (0, u "max"), (0, u "(II)I"), (0, .methodref 15 16), (0, .class_ 17), (0, .nameAndType 18 19), (0, u "com/example/deadletter/deadletter/retry/FailedAttempt"), (0, u "requireValid"), (0, u "(I)I"), (0, .class_ 21), (0, u "com/example/deadletter/deadletter/retry/FailedAttemptRequireValidPinLaw"), (2, u "law"), (0, u "(I)Z")] 3

def k1m0 : Method := { name := "<init>", desc := "()V", sig := { parameters := [], returnType := none }, accessFlags := 2, code := none }
def k1c1 : Code := { maxStack := 3, maxLocals := 3, code := code, exceptionTable := #[], attributes := #[] }
def k1m1 : Method := { name := "law", desc := "(I)Z", sig := { parameters := [.int], returnType := some .boolean }, accessFlags := 9, code := some k1c1 }
/-- com/example/deadletter/deadletter/retry/FailedAttemptRequireValidPinLaw -/
def k1 : Class := { plain "com/example/deadletter/deadletter/retry/FailedAttemptRequireValidPinLaw" (some 0) with
  accessFlags := 49
  interfaces := #[]
  cf := some (fileOf pool1 20 #[] #[{ accessFlags := 2, nameIndex := 5, descriptorIndex := 6, attributes := #[] }, { accessFlags := 9, nameIndex := 24, descriptorIndex := 25, attributes := #[] }] 49 2 #[] #[])
  fields := #[]
  methods := #[k1m0, k1m1]
  instanceTypes := #[]
  staticTypes := #[]
  resolved := Array.replicate 29 none
  statics := none }

def pool2 : Array CpInfo := pool [(1, .class_ 2), (0, u "java/lang/Math"), (1, .class_ 6), (1, u "java/lang/Object"), (0, u "<init>"), (0, u "()V"), (89, .class_ 100), (1, u "java/lang/Math$RandomNumberGeneratorHolder"), (71, u "negativeZeroFloatBits"), (0, u "J"), (2, u "negativeZeroDoubleBits"), (21, u "max"), (46, u "$assertionsDisabled"), (0, u "Z"), (88, u "(II)I"), (2, u "twoToTheDoubleScaleDown"), (0, u "D"), (4, u "twoToTheDoubleScaleUp"), (9, u "E"), (3, u "PI"), (2, u "TAU"), (2, u "DEGREES_TO_RADIANS"), (0, u "RADIANS_TO_DEGREES")] 94

def k2m0 : Method := { name := "<init>", desc := "()V", sig := { parameters := [], returnType := none }, accessFlags := 2, code := none }
def k2c1 : Code := { maxStack := 2, maxLocals := 2, code := jdk_29_method_65_code, exceptionTable := #[], attributes := #[] }
def k2m1 : Method := { name := "max", desc := "(II)I", sig := { parameters := [.int, .int], returnType := some .int }, accessFlags := 9, code := some k2c1 }
/-- java/lang/Math -/
def k2 : Class := { plain "java/lang/Math" (some 0) with
  accessFlags := 49
  interfaces := #[]
  cf := some (fileOf pool2 1 #[.nestMembers #[98]] #[{ accessFlags := 2, nameIndex := 7, descriptorIndex := 8, attributes := #[] }, { accessFlags := 9, nameIndex := 198, descriptorIndex := 335, attributes := #[] }] 49 4 #[] #[{ accessFlags := 25, nameIndex := 354, descriptorIndex := 339, attributes := #[] }, { accessFlags := 25, nameIndex := 358, descriptorIndex := 339, attributes := #[] }, { accessFlags := 25, nameIndex := 361, descriptorIndex := 339, attributes := #[] }, { accessFlags := 26, nameIndex := 364, descriptorIndex := 339, attributes := #[] }, { accessFlags := 26, nameIndex := 365, descriptorIndex := 339, attributes := #[] }, { accessFlags := 26, nameIndex := 172, descriptorIndex := 173, attributes := #[] }, { accessFlags := 26, nameIndex := 176, descriptorIndex := 173, attributes := #[] }, { accessFlags := 8, nameIndex := 344, descriptorIndex := 339, attributes := #[] }, { accessFlags := 8, nameIndex := 338, descriptorIndex := 339, attributes := #[] }, { accessFlags := 4120, nameIndex := 245, descriptorIndex := 246, attributes := #[] }])
  fields := #[{ name := "E", type := .double, accessFlags := 25, slot := 0, constantValue := 0 }, { name := "PI", type := .double, accessFlags := 25, slot := 1, constantValue := 0 }, { name := "TAU", type := .double, accessFlags := 25, slot := 2, constantValue := 0 }, { name := "DEGREES_TO_RADIANS", type := .double, accessFlags := 26, slot := 3, constantValue := 0 }, { name := "RADIANS_TO_DEGREES", type := .double, accessFlags := 26, slot := 4, constantValue := 0 }, { name := "negativeZeroFloatBits", type := .long, accessFlags := 26, slot := 5, constantValue := 0 }, { name := "negativeZeroDoubleBits", type := .long, accessFlags := 26, slot := 6, constantValue := 0 }, { name := "twoToTheDoubleScaleUp", type := .double, accessFlags := 8, slot := 7, constantValue := 0 }, { name := "twoToTheDoubleScaleDown", type := .double, accessFlags := 8, slot := 8, constantValue := 0 }, { name := "$assertionsDisabled", type := .boolean, accessFlags := 4120, slot := 9, constantValue := 0 }]
  methods := #[k2m0, k2m1]
  instanceTypes := #[]
  staticTypes := #[.double, .double, .double, .double, .double, .long, .long, .double, .double, .boolean]
  resolved := Array.replicate 460 none
  statics := none }

def pool3 : Array CpInfo := pool [(2, .class_ 4), (1, u "java/lang/Object"), (0, u "<init>"), (0, u "()V"), (9, .class_ 17), (0, u "com/example/deadletter/deadletter/retry/FailedAttempt"), (2, u "requireValid"), (0, u "(I)I")] 18

def k3m0 : Method := { name := "<init>", desc := "()V", sig := { parameters := [], returnType := none }, accessFlags := 2, code := none }
def k3c1 : Code := { maxStack := 3, maxLocals := 1, code := prog_25_method_2_code, exceptionTable := #[], attributes := #[] }
def k3m1 : Method := { name := "requireValid", desc := "(I)I", sig := { parameters := [.int], returnType := some .int }, accessFlags := 8, code := some k3c1 }
/-- com/example/deadletter/deadletter/retry/FailedAttempt -/
def k3 : Class := { plain "com/example/deadletter/deadletter/retry/FailedAttempt" (some 0) with
  accessFlags := 32
  interfaces := #[]
  cf := some (fileOf pool3 16 #[] #[{ accessFlags := 2, nameIndex := 5, descriptorIndex := 6, attributes := #[] }, { accessFlags := 8, nameIndex := 20, descriptorIndex := 21, attributes := #[] }] 32 2 #[] #[])
  fields := #[]
  methods := #[k3m0, k3m1]
  instanceTypes := #[]
  staticTypes := #[]
  resolved := Array.replicate 40 none
  statics := none }

def pool4 : Array CpInfo := pool [(1, u "java/lang/Cloneable"), (0, .class_ 1), (0, u "java/lang/Object"), (0, .class_ 3)] 3

/-- java/lang/Cloneable -/
def k4 : Class := { plain "java/lang/Cloneable" (some 0) with
  accessFlags := 1537
  interfaces := #[]
  cf := some (fileOf pool4 2 #[] #[] 1537 4 #[] #[])
  fields := #[]
  methods := #[]
  instanceTypes := #[]
  staticTypes := #[]
  resolved := Array.replicate 8 none
  statics := none }

def pool5 : Array CpInfo := pool [(1, u "java/io/Serializable"), (0, .class_ 1), (0, u "java/lang/Object"), (0, .class_ 3)] 3

/-- java/io/Serializable -/
def k5 : Class := { plain "java/io/Serializable" (some 0) with
  accessFlags := 1537
  interfaces := #[]
  cf := some (fileOf pool5 2 #[] #[] 1537 4 #[] #[])
  fields := #[]
  methods := #[]
  instanceTypes := #[]
  staticTypes := #[]
  resolved := Array.replicate 8 none
  statics := none }

/-- the primitive byte -/
def k6 : Class := { plain "byte" none with kind := .primitive 'B', accessFlags := 0x411 }
/-- [B -/
def k7 : Class := { plain "[B" (some 0) with kind := .array 6 .byte, interfaces := #[4, 5], accessFlags := 1041 }

/-- the primitive int -/
def k8 : Class := { plain "int" none with kind := .primitive 'I', accessFlags := 0x411 }
/-- [I -/
def k9 : Class := { plain "[I" (some 0) with kind := .array 8 .int, interfaces := #[4, 5], accessFlags := 1041 }

def heap : Heap := #[]
def classes : Array Class := #[k0, k1, k2, k3, k4, k5, k6, k7, k8, k9]
def interned : List (Array UInt16 × Addr) := []
def slotsUsed : Nat := 0
def theMethod : MethodId := ⟨1, 1⟩
def args0 : Array Value := #[.int 5]
def aboutOver (below : List Frame) : State where
  vm := { classes := classes, interned := interned.toArray }
  heap := heap
  slotsUsed := slotsUsed
  threads := #[{ frames := .invoking theMethod args0 :: below }]
def below0 : List Frame := [.native { method := ⟨0, 0⟩, args := #[] }]
def about1 : State := aboutOver below0
def p0 : Program := .bare "" "" ""
def e0 : Env := launch0.env 0 0 0
theorem w_frames : about1.frames = Frame.invoking theMethod args0 :: below0 := rfl
set_option maxRecDepth 65536 in
theorem w_args : argsFit about1.vm theMethod args0 = true := by decide +kernel
set_option maxRecDepth 65536 in
theorem w_heap : heapFits about1 = true := by decide +kernel
set_option maxRecDepth 65536 in
theorem w_runnable : about1.curStatus? = some .runnable := by decide +kernel
set_option maxRecDepth 65536 in
theorem w_alone : about1.alone = true := by decide +kernel
set_option maxRecDepth 65536 in
theorem w_named : about1.methodNamed? x = some theMethod := by decide +kernel
set_option maxRecDepth 65536 in
theorem w_hears : about1.hears theMethod below0 = true := by decide +kernel
set_option maxRecDepth 65536 in
theorem w_ripe : about1.ripe theMethod args0 below0 = true := by decide +kernel
theorem w_running : about1.status = .running := rfl
set_option maxRecDepth 65536 in
theorem w_room : about1.hasRoom e0.platform room_1 = true :=
  launch0.hasRoom_least _ room_1 (by decide +kernel) (by decide +kernel) (by decide +kernel) (by decide +kernel) (by decide +kernel) (by decide +kernel)
theorem allAtoms_all (ts : List Jvm.Cond) (a : Array Jvm.Value) (st : Jvm.State) : (allAtoms ts).before a st = ts.all (fun c => c.before a st) := by
  induction ts with
  | nil => rfl
  | cons c t ih =>
    show (Jvm.Cond.and c (allAtoms t)).before a st = _
    rw [Jvm.Cond.before_and, ih, List.all_cons]
def words1 : List Jvm.Cond := Jvm.Cond.code x code maxLocals ret :: tables_1
/-- a 'code' word, met by the world's own term for the bytes: nothing is compared byte by byte -/
theorem code_word {y : MethodName} {bytes : ByteArray} {mx : Nat} {rt : Option FieldType} {a : Array Value} {s : State} {m : MethodId} {meth : Method} {c : Code} (h1 : s.methodNamed? y = some m) (h2 : s.vm.method? m = some meth) (h3 : meth.code = some c) (h4 : c.code = bytes)
    (h5 : (c.maxLocals == mx && c.exceptionTable.isEmpty && decide (c.maxStack ≤ mostOperands) && decide (meth.sig.returnType = rt) && !meth.locks && decide (parseMethodDescriptor y.desc = some meth.sig)) = true) : (Jvm.Cond.code y bytes mx rt).before a s = true := by
  simp only [Bool.and_eq_true, beq_iff_eq, Bool.not_eq_true', decide_eq_true_eq] at h5
  obtain ⟨⟨⟨⟨⟨g1, g2⟩, g3⟩, g4⟩, g5⟩, g6⟩ := h5
  simp [Cond.before, Cond.holds, Cond.value, h1, h2, h3, h4, g1, g2, g3, g4, g5, g6]
def isCode : Jvm.Cond → Bool
  | .code _ _ _ _ => true
  | _ => false
theorem all_split {L : List Jvm.Cond} {P : Jvm.Cond → Bool} (h1 : L.all (fun c => isCode c || P c) = true) (h2 : ∀ c ∈ L.filter isCode, P c = true) : L.all P = true := by
  refine List.all_eq_true.mpr fun c hc => ?_
  have h := List.all_eq_true.mp h1 c hc
  rcases Bool.eq_false_or_eq_true (isCode c) with hi | hi
  · exact h2 c (List.mem_filter.mpr ⟨hc, hi⟩)
  · simpa [hi] using h
set_option maxRecDepth 65536 in
theorem w_c0 : (Jvm.Cond.code x code maxLocals ret).before args0 about1 = true := code_word (m := ⟨1, 1⟩) (meth := k1m1) (c := k1c1) (by decide +kernel) rfl rfl rfl (by decide +kernel)
set_option maxRecDepth 65536 in
theorem w_c1 : (Jvm.Cond.code ({ cls := "java/lang/Math", name := "max", desc := "(II)I" } : Jvm.MethodName) jdk_29_method_65_code (2 : Nat) (Option.some Jvm.ClassFile.FieldType.int)).before args0 about1 = true := code_word (m := ⟨2, 1⟩) (meth := k2m1) (c := k2c1) (by decide +kernel) rfl rfl rfl (by decide +kernel)
set_option maxRecDepth 65536 in
theorem w_c2 : (Jvm.Cond.code ({ cls := "com/example/deadletter/deadletter/retry/FailedAttempt", name := "requireValid", desc := "(I)I" } : Jvm.MethodName) prog_25_method_2_code (1 : Nat) (Option.some Jvm.ClassFile.FieldType.int)).before args0 about1 = true := code_word (m := ⟨3, 1⟩) (meth := k3m1) (c := k3c1) (by decide +kernel) rfl rfl rfl (by decide +kernel)
def codes1 : List Jvm.Cond := [Jvm.Cond.code x code maxLocals ret, Jvm.Cond.code ({ cls := "java/lang/Math", name := "max", desc := "(II)I" } : Jvm.MethodName) jdk_29_method_65_code (2 : Nat) (Option.some Jvm.ClassFile.FieldType.int), Jvm.Cond.code ({ cls := "com/example/deadletter/deadletter/retry/FailedAttempt", name := "requireValid", desc := "(I)I" } : Jvm.MethodName) prog_25_method_2_code (1 : Nat) (Option.some Jvm.ClassFile.FieldType.int)]
set_option maxRecDepth 65536 in
theorem codes_eq : words1.filter isCode = codes1 := rfl
theorem w_codes : ∀ c ∈ words1.filter isCode, c.before args0 about1 = true := by
  rw [codes_eq]
  intro c hc
  simp only [codes1, List.mem_cons, List.not_mem_nil, or_false] at hc
  rcases hc with rfl | rfl | rfl
  · exact w_c0
  · exact w_c1
  · exact w_c2
set_option maxRecDepth 65536 in
theorem w_t1 : words1.all (fun c => isCode c || c.before args0 about1) = true := by decide +kernel
theorem w_tables : (allAtoms (Jvm.Cond.code x code maxLocals ret :: tables_1)).before args0 about1 = true := by
  rw [allAtoms_all]
  show words1.all (fun c => c.before args0 about1) = true
  refine all_split ?_ w_codes
  rw [w_t1]
set_option maxRecDepth 65536 in
theorem w_case : (Jvm.Cond.and given_1 narrow_1).before args0 about1 = true := by decide +kernel
theorem w_applies : (headSpec (Jvm.Cond.code x code maxLocals ret :: tables_1) room_1).applies x e0.platform about1 = true :=
  (Spec.applies_iff w_frames).mpr ⟨w_running, w_runnable, w_alone, w_named, w_hears, w_ripe, w_room, w_tables⟩
theorem atStart : AtStart classFile x code maxLocals ret World_1 tables_1 room_1 Calls_1 rest_1 Pre_1 launch0 p0 e0 about1 theMethod args0 below0 :=
  ⟨lists_1, trivial, launch0.admits_env _ _ _, launch0.least_env, fairChoices_fair.cas, fairChoices_fair.clock, w_frames, w_args, w_heap, w_applies, trivial, trivial, w_case⟩
end start1
theorem witness_1 : WitnessClaimed_1 := ⟨start1.p0, start1.e0, start1.about1, start1.theMethod, start1.args0, start1.below0, start1.atStart⟩
end Jvm.Pilot.@@N@@
